/-
  The law on take, its second part: the kinds and texts are copied, placesOf is called.
-/
import Derived.Test.Qxb6602171aLawC
namespace Go.Proofs.Qxb6602171a
open Go.ChangeShapes Go.WideShapes Go.ChangeAt Go.RowKit

set_option maxRecDepth 1000000 in
set_option maxHeartbeats 8000000 in
theorem stageB {a v : Option Addr} {n c d : Nat} {Z : Int} {ks : Nat → Int} {ts vs : Nat → ByteArray} {w : World} {K : Act → World → Prop} {u2 u3 u4 u6 u7 u9 u10 u11 u12 u13 u14 u15 u16 u17 u18 u19 u20 u21 u22 u23 u24 u25 u26 u27 u28 u29 u30 u31 u32 u33 u34 u35 u36 u37 u38 u39 u40 u41 u42 u43 u44 u45 u46 u47 u48 u49 u50 u51 u52 u53 u54 u55 u56 u57 u58 u59 u60 u61 u62 u63 u64 u65 u66 u67 u68 u69 u70 u71 u72 u73 u74 u75 u76 u77 u78 u79 u80 u81 u82 u83 u84 u85 u86 u87 u88 u89 u90 u91 u92 u93 u94 u95 u96 u97 u98 u99 u100 u101 u102 u103 u104 u105 u106 u107 u108 u109 u110 u111 u112 u113 u114 u115 u116 u117 u118 u119 u120 u121 u122 u123 u124 u125 u126 u127 u128 u129 u130 u131 u132 u133 u134 u135 u136 u137 u138 u139 u140 u141 u142 u143 u144 u145 u146 u147 u148 u149 u150 u151 u152 u153 u154 u155 u156 u157 u158 u159 u160 u161 u162 u163 u164 u165 u166 u167 u168 u169 u170 u171 u172 u173 u174 u175 u176 u177 u178 u179 u180 u181 u182 u183 u184 u185 u186 u187 u188 u189 u190 u191 u192 u193 u194 u195 u196 u197 u198 u199 u200 u201 u202 u203 u204 u205 u206 u207 u208 u209 u210 u211 u212 u213 u214 u215 u216 u217 u218 u219 u220 u221 u222 u223 u224 u225 u226 u227 u228 u229 u230 u231 u232 u233 u234 u235 u236 u237 u238 u239 u240 u241 u242 u243 u244 u245 u246 u247 u248 u249 u250 u251 u252 u253 u254 u255 u256 u257 u258 u259 u260 u261 u262 u263 u264 u265 u266 u267 u268 u269 u270 u271 u272 u273 u274 u275 u276 u277 u278 u279 u280 u281 u282 u283 u284 u285 u286 u287 u288 u289 u290 u291 u292 u293 u294 u295 u296 u297 u298 u299 u300 u301 u302 u303 u304 u305 u306 u307 u308 u309 u310 u311 u312 u313 u314 u315 u316 u317 u318 u319 u320 u321 u322 u323 u324 u325 u326 u327 u328 u329 u330 u331 u332 u333 u334 u335 u336 u337 u338 u339 u340 u341 u342 u343 u344 u345 : Value}
    (hK : ∀ a' w', Code.wp Try.prog (tailN 13 (Try.f4.body.getD .skip)) (bodyPost Try.prog Try.f4 fun e w' => e = .returned (.bool true) ∧ Below w.heap.size w w') a' w' → K a' w')
    (HS : Hid (SegIn w a n ks ts)) (HV : Hid (StrIn w v (nm ks n) vs)) (hn : n ≤ 65536) (HKO : Hid (KindOK ks n n)) (HVO : Hid (ValOK ks vs n))
    (hZ0 : 24 * (n : Int) + 16 * (nm ks n : Int) + (tsum ts n : Int) + (tsum vs (nm ks n) : Int) ≤ Z) (hZ1 : Z ≤ 1048576) :
    Code.wp Try.prog (headN 12 (Try.f4.body.getD .skip)) (Exit.then K (bodyPost Try.prog Try.f4 fun e w' => e = .returned (.bool true) ∧ Below w.heap.size w w')) ⟨#[.slice a n c, .slice v (nm ks n) d, u2, u3, u4, .int .i64 Z, u6, u7, .int .i64 (nm ks n), u9, u10, u11, u12, u13, u14, u15, u16, u17, u18, u19, u20, u21, u22, u23, u24, u25, u26, u27, u28, u29, u30, u31, u32, u33, u34, u35, u36, u37, u38, u39, u40, u41, u42, u43, u44, u45, u46, u47, u48, u49, u50, u51, u52, u53, u54, u55, u56, u57, u58, u59, u60, u61, u62, u63, u64, u65, u66, u67, u68, u69, u70, u71, u72, u73, u74, u75, u76, u77, u78, u79, u80, u81, u82, u83, u84, u85, u86, u87, u88, u89, u90, u91, u92, u93, u94, u95, u96, u97, u98, u99, u100, u101, u102, u103, u104, u105, u106, u107, u108, u109, u110, u111, u112, u113, u114, u115, u116, u117, u118, u119, u120, u121, u122, u123, u124, u125, u126, u127, u128, u129, u130, u131, u132, u133, u134, u135, u136, u137, u138, u139, u140, u141, u142, u143, u144, u145, u146, u147, u148, u149, u150, u151, u152, u153, u154, u155, u156, u157, u158, u159, u160, u161, u162, u163, u164, u165, u166, u167, u168, u169, u170, u171, u172, u173, u174, u175, u176, u177, u178, u179, u180, u181, u182, u183, u184, u185, u186, u187, u188, u189, u190, u191, u192, u193, u194, u195, u196, u197, u198, u199, u200, u201, u202, u203, u204, u205, u206, u207, u208, u209, u210, u211, u212, u213, u214, u215, u216, u217, u218, u219, u220, u221, u222, u223, u224, u225, u226, u227, u228, u229, u230, u231, u232, u233, u234, u235, u236, u237, u238, u239, u240, u241, u242, u243, u244, u245, u246, u247, u248, u249, u250, u251, u252, u253, u254, u255, u256, u257, u258, u259, u260, u261, u262, u263, u264, u265, u266, u267, u268, u269, u270, u271, u272, u273, u274, u275, u276, u277, u278, u279, u280, u281, u282, u283, u284, u285, u286, u287, u288, u289, u290, u291, u292, u293, u294, u295, u296, u297, u298, u299, u300, u301, u302, u303, u304, u305, u306, u307, u308, u309, u310, u311, u312, u313, u314, u315, u316, u317, u318, u319, u320, u321, u322, u323, u324, u325, u326, u327, u328, u329, u330, u331, u332, u333, u334, u335, u336, u337, u338, u339, u340, u341, u342, u343, u344, u345], []⟩ w := by
  conv at hK => intro a' w'; lhs; arg 2; whnf
  conv => arg 2; whnf
  have hN := nm_le ks n
  have hen : en ks ts n ≤ 1048576 := by have := en_le ks ts n; omega
  obtain ⟨i0, hi, hz0, hz1, hz2⟩ := info_parts info5
  obtain ⟨j0, ji, jz0, jz1, jz2⟩ := info_parts info9
  go_wp2_with (first
    | (at_make; refine wpList_make_full _ rfl (.tmp 150) (.tmp 150) 33 rfl 0 5 i0 (.int .u8 0) 1 Try.underlying33 hi hz0 hz1 .i64 .i64 _ _ n rfl rfl rfl rfl (by rw [hz2]; omega) (by unfold maxLen; omega) (Nat.zero_le _) ?_; intro w1 hown1 hgrow1)
    | (at_make; refine wpList_make_full _ rfl (.tmp 153) (.tmp 153) 29 rfl 0 9 j0 (.string ⟨#[]⟩) 1 Try.underlying29 ji jz0 jz1 .i64 .i64 _ _ n rfl rfl rfl rfl (by rw [jz2]; omega) (by unfold maxLen; omega) (Nat.zero_le _) ?_; intro w2 hown2 hgrow2))
  have s1 : w.heap.size < w1.heap.size := (hown1.lt _ rfl).2
  have s2 : w1.heap.size < w2.heap.size := (hown2.lt _ rfl).2
  have b1 : Below w.heap.size w w1 := (Below.refl _ _).grown hgrow1 (Nat.le_refl _) (by intro k hk; cases hk)
  have b2 : Below w1.heap.size w1 w2 := (Below.refl _ _).grown hgrow2 (Nat.le_refl _) (by intro k hk; cases hk)
  have hkt : KT w2 w.heap.size w1.heap.size n 0 ks ts := by
    refine ⟨fun i h => absurd h (Nat.not_lt_zero i), ?_, by have := free_of_owns hown2; simpa using this⟩
    have := free_of_owns hown1
    rw [Nat.mul_one] at this
    exact this.kept b2 s1
  have hb2 : Below w.heap.size w w2 := b1.trans (b2.mono (by omega))
  have hpq : Hid (w.heap.size < w1.heap.size ∧ w1.heap.size < w2.heap.size) := ⟨s1, s2⟩
  clear hown1 hown2 hgrow1 hgrow2 b1 b2 s1 s2 hi hz0 hz1 hz2 ji jz0 jz1 jz2
  generalize w1.heap.size = q at hkt hpq ⊢
  go_loopw [15] (fun ii wr => ∃ k : Nat, k ≤ n ∧ ii = .int .i64 k ∧ KT wr w.heap.size q n k ks ts ∧ Below w.heap.size w wr ∧ q < wr.heap.size) (fun ii _ => n - (intOf ii).toNat)
  case atStart => exact ⟨0, Nat.zero_le _, rfl, hkt, hb2, hpq.out.2⟩
  case round =>
    obtain ⟨k, hk, rfl, hkt', hbel, hqs⟩ := hrel
    clear hkt hb2
    by_cases hlt : k < n
    · obtain ⟨b, off, rfl, hc0, hc1, h0, h1, -⟩ := HS.out k hlt
      have hblt : b < w.heap.size := World.block_lt_of_cell? w _ hc0
      have hpq1 := hpq.out.1
      have hne : ¬ w.heap.size = q := by omega
      have hd0 : wr.cell? ⟨b, off + k * 2, none⟩ = some (.int .u8 (ks k)) := (hbel.cell (by exact hblt)).trans hc0
      have hd1 : wr.cell? ⟨b, off + k * 2 + 1, none⟩ = some (.string (ts k)) := (hbel.cell (by exact hblt)).trans hc1
      obtain ⟨⟨v0, hv0⟩, hf0⟩ := hkt'.2.1 k hlt
      obtain ⟨⟨v1, hv1⟩, hf1⟩ := hkt'.2.2 k hlt
      have ne1 : ¬ w.heap.size = b := by omega
      have hd1' : (wr.setCell ⟨w.heap.size, k, none⟩ (.int .u8 (ks k))).cell? ⟨b, off + k * 2 + 1, none⟩ = some (.string (ts k)) := by
        rw [World.cell?_setCell_other _ _ _ _ (block_ne ne1)]; exact hd1
      have hv1' : (wr.setCell ⟨w.heap.size, k, none⟩ (.int .u8 (ks k))).cell? ⟨q, k, none⟩ = some v1 := by
        rw [World.cell?_setCell_other _ _ _ _ (block_ne hne)]; exact hv1
      have HST : Hid (KT ((wr.setCell ⟨w.heap.size, k, none⟩ (.int .u8 (ks k))).setCell ⟨q, k, none⟩ (.string (ts k))) w.heap.size q n (k + 1) ks ts) := hkt'.step hlt hne
      have hbn : Below w.heap.size w ((wr.setCell ⟨w.heap.size, k, none⟩ (.int .u8 (ks k))).setCell ⟨q, k, none⟩ (.string (ts k))) :=
        (hbel.setCell (p := ⟨w.heap.size, k, none⟩) (Nat.le_refl _) _).setCell (p := ⟨q, k, none⟩) (by show _ ≤ q; omega) _
      have hqs' : q < ((wr.setCell ⟨w.heap.size, k, none⟩ (.int .u8 (ks k))).setCell ⟨q, k, none⟩ (.string (ts k))).heap.size := by simpa using hqs
      have HQS : Hid _ := hqs'
      clear hkt' hqs' hc0 hc1 hpq1
      go_wp2
      go_roundw
      case rel => exact ⟨k + 1, by omega, by go_num, HST.out, hbn, HQS.out⟩
      case measure => simp [intOf]; omega
    · obtain rfl : n = k := by omega
      have hpq1 := hpq.out.1
      have HKT : Hid (KT wr w.heap.size q n n ks ts) := hkt'
      clear hkt' hlt hk
      go_wp2_with fail
      refine (zzplaces_any w.heap.size q n ks ts wr (by omega) hqs (fun i hi => (HKT.out.1 i hi).1) (fun i hi => (HKT.out.1 i hi).2) hn hen).mono ?_
      rintro e w3 ⟨s, t, rfl, hst, hb3⟩
      have HST : Hid (∀ k, k < nm ks n → w3.cell? ⟨s, k, none⟩ = (plc ks ts n)[k * 2]? ∧ w3.cell? ⟨t, k, none⟩ = (plc ks ts n)[k * 2 + 1]?) := hst
      have hbel3 : Below w.heap.size w w3 := hbel.trans (hb3.mono (by have := hpq.out; omega))
      clear hst hb3 HKT hbel
      go_upto_region 51 with fail
      exact stageC (by assumption) HS HV hn HKO HVO hZ0 hZ1 HST hbel3

end Go.Proofs.Qxb6602171a
