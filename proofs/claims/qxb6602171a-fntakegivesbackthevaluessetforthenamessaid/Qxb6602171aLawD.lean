/-
  The law on take, its last part: the values are taken.
-/
import Derived.Test.Qxb6602171aTakeMath
import Derived.Deep.QuietTactic
import Derived.BigQuiet
import Derived.Deep.RegionHeld3
namespace Go.Proofs.Qxb6602171a
open Go.ChangeShapes Go.WideShapes Go.ChangeAt Go.RowKit

/-- ZZTake at a name, both kinds. -/
theorem zztake_vr (st en fr L q : Nat) (pat path v r : ByteArray) (w : World) (hp : pat.size ≤ 1048576) (hq : path.size ≤ 1048576) (hL : Hid (fr + L + 2 = st)) (h2 : st ≤ en) (h3 : en ≤ pat.size)
    (hx : L < path.size) (he : (path.extract 0 L).toList = (pat.extract fr (st - 2)).toList) (hsl : bt path L = 47)
    (hF' : (bt pat (st - 1) = 42 ∧ q = path.size) ∨ (¬ bt pat (st - 1) = 42 ∧ L + 1 < q ∧ (∀ x, L < x → x < q → ¬ bt path x = 47) ∧ (q < path.size → bt path q = 47)))
    (hq2 : q ≤ path.size) (hv : path.extract (L + 1) q = v) (hr : path.extract q path.size = r) :
    Calls Try.prog 9 #[.int .u32 st, .int .u32 en, .string pat, .int .u32 fr, .string path] w fun e w' =>
      e = .returned (.tuple #[.string v, .string r, .bool true]) ∧ Below w.heap.size w w' := by
  subst hv
  subst hr
  rcases hF' with ⟨a1, a2⟩ | ⟨a1, a2, a3, a4⟩
  · subst a2
    have e : path.extract path.size path.size = ⟨#[]⟩ := by
      apply ba_ext; rw [Lib.extract_to_end]; simp
    rw [e]
    exact zztake_star st en fr L pat path w hp hq hL h2 h3 hx he hsl a1
  · exact zztake_colon st en fr L q pat path w hp hq hL h2 h3 hx he hsl a1 a2 hq2 a3 a4

theorem wrap32_id (x : Int) (h0 : 0 ≤ x) (h1 : x ≤ 4294967295) : IntKind.u32.wrap x = x := by
  simp [IntKind.wrap, IntKind.bits, IntKind.signed]
  omega
theorem wrap64_id (x : Int) (h0 : 0 ≤ x) (h1 : x ≤ 9223372036854775807) : IntKind.u64.wrap x = x := by
  simp [IntKind.wrap, IntKind.bits, IntKind.signed]
  omega

theorem row_cells {w0 : World} {B : Nat} {w : World} {P R Z n : Nat} {xs : List UInt8} {m : Nat} {ys : List UInt8} (h : Two w0 B w P R Z n xs m ys) :
    (∀ j (hj : j < xs.length), w.cell? ((⟨P, 0, none⟩ : Addr).add j) = some (.int .u8 (xs[j].toNat : Int))) ∧ (∀ j (hj : j < ys.length), w.cell? ((⟨R, 0, none⟩ : Addr).add j) = some (.int .u8 (ys[j].toNat : Int))) := by
  have hadd : ∀ b j, (⟨b, 0, none⟩ : Addr).add j = ⟨b, j, none⟩ := by intro b j; unfold Addr.add; split <;> simp_all
  have l1 := h.fst.1
  have l2 := h.snd.1
  simp [byteCells] at l1 l2
  constructor
  · intro j hj
    rw [hadd, h.fst.cellAt j (by omega)]
    simp [byteCells, hj]
  · intro j hj
    rw [hadd, h.snd.cellAt j (by omega)]
    simp [byteCells, hj]

theorem add0 (b j : Nat) : (⟨b, 0, none⟩ : Addr).add j = ⟨b, j, none⟩ := by unfold Addr.add; split <;> simp_all

/-- string(path[tail:]). -/
theorem conv_tail (w : World) (R Z tl : Nat) (l : List UInt8) (h : tl ≤ l.length) (hc : ∀ x (hx : x < l.length), w.cell? ⟨R, x, none⟩ = some (.int .u8 (l[x].toNat : Int))) :
    (convert 33 9 (.slice (some ⟨R, tl, none⟩) (l.length - tl) (Z - tl))).run Try.prog w = .ok (.string ⟨(l.drop tl).toArray⟩) w := by
  have := run_convert_bytes_back (P := Try.prog) w 33 9 5 ⟨R, tl, none⟩ (Z - tl) (l.drop tl) Try.underlying33 Try.underlying5 Try.underlying9 (by
    intro j hj
    have hj' : tl + j < l.length := by simp at hj; omega
    have hadd : (⟨R, tl, none⟩ : Addr).add j = ⟨R, tl + j, none⟩ := by unfold Addr.add; split <;> simp_all
    rw [hadd, hc (tl + j) hj']
    simp)
  rw [List.length_drop] at this
  exact this

set_option maxRecDepth 1000000 in
set_option maxHeartbeats 8000000 in
theorem stageD {v : Option Addr} {n d s t P R Z B : Nat} {ks : Nat → Int} {ts vs : Nat → ByteArray} {w0 wb w : World} {K : Act → World → Prop} {u0 u2 u3 u4 u5 u6 u7 u9 u10 u11 u12 u13 u14 u15 u21 u22 u23 u24 u25 u26 u27 u28 u29 u30 u31 u32 u33 u34 u35 u36 u37 u38 u39 u40 u41 u42 u43 u44 u45 u46 u47 u48 u49 u50 u51 u52 u53 u54 u55 u56 u57 u58 u59 u60 u61 u62 u63 u64 u65 u66 u67 u68 u69 u70 u71 u72 u73 u74 u75 u76 u77 u78 u79 u80 u81 u82 u83 u84 u85 u86 u87 u88 u89 u90 u91 u92 u93 u94 u95 u96 u97 u98 u99 u100 u101 u102 u103 u104 u105 u106 u107 u108 u109 u110 u111 u112 u113 u114 u115 u116 u117 u118 u119 u120 u121 u122 u123 u124 u125 u126 u127 u128 u129 u130 u131 u132 u133 u134 u135 u136 u137 u138 u139 u140 u141 u142 u143 u144 u145 u146 u147 u148 u149 u150 u151 u152 u153 u154 u155 u156 u157 u158 u159 u160 u161 u162 u163 u164 u165 u166 u167 u168 u169 u170 u171 u172 u173 u174 u175 u176 u177 u178 u179 u180 u181 u182 u183 u184 u185 u186 u187 u188 u189 u190 u191 u192 u193 u194 u195 u196 u197 u198 u199 u200 u201 u202 u203 u204 u205 u206 u207 u208 u209 u210 u211 u212 u213 u214 u215 u216 u217 u218 u219 u220 u221 u222 u223 u224 u225 u226 u227 u228 u229 u230 u231 u232 u233 u234 u235 u236 u237 u238 u239 u240 u241 u242 u243 u244 u245 u246 u247 u248 u249 u250 u251 u252 u253 u254 u255 u256 u257 u258 u259 u260 u261 u262 u263 u264 u265 u266 u267 u268 u269 u270 u271 u272 u273 u274 u275 u276 u277 u278 u279 u280 u281 u282 u283 u284 u285 u286 u287 u288 u289 u290 u291 u292 u293 u294 u295 u296 u297 u298 u299 u300 u301 u302 u303 u304 u305 u306 u307 u308 u309 u310 u311 u312 u313 u314 u315 u316 u317 u318 u319 u320 u321 u322 u323 u324 u325 u326 u327 u328 u329 u330 u331 u332 u333 u334 u335 u336 u337 u338 u339 u340 u341 u342 u343 u344 u345 : Value}
    (hK : ∀ a' w', Code.wp Try.prog (tailN 23 (Try.f4.body.getD .skip)) (bodyPost Try.prog Try.f4 fun e w' => e = .returned (.bool true) ∧ Below w0.heap.size w0 w') a' w' → K a' w')
    (HV : Hid (StrIn w0 v (nm ks n) vs)) (hn : n ≤ 65536) (HKO : Hid (KindOK ks n n)) (HVO : Hid (ValOK ks vs n)) (hZ : Z ≤ 1048576) (hP : (patL ks ts n).length ≤ Z) (hR : (pthL ks ts vs n).length + n ≤ Z)
    (HST : Hid (∀ k, k < nm ks n → w.cell? ⟨s, k, none⟩ = (plc ks ts n)[k * 2]? ∧ w.cell? ⟨t, k, none⟩ = (plc ks ts n)[k * 2 + 1]?)) (hbel : Below w0.heap.size w0 w)
    (HT : Hid (Two wb B w P R Z (patL ks ts n).length (patL ks ts n) (pthL ks ts vs n).length (pthL ks ts vs n))) :
    Code.wp Try.prog (headN 22 (Try.f4.body.getD .skip)) (Exit.then K (bodyPost Try.prog Try.f4 fun e w' => e = .returned (.bool true) ∧ Below w0.heap.size w0 w')) ⟨#[u0, .slice v (nm ks n) d, u2, u3, u4, u5, u6, u7, .int .i64 (nm ks n), u9, u10, u11, u12, u13, u14, u15, .slice (some ⟨s, 0, none⟩) (nm ks n) (nm ks n), .slice (some ⟨t, 0, none⟩) (nm ks n) (nm ks n), .slice (some ⟨P, 0, none⟩) (patL ks ts n).length Z, .slice (some ⟨R, 0, none⟩) (pthL ks ts vs n).length Z, .int .i64 (tlN ks ts vs n), u21, u22, u23, u24, u25, u26, u27, u28, u29, u30, u31, u32, u33, u34, u35, u36, u37, u38, u39, u40, u41, u42, u43, u44, u45, u46, u47, u48, u49, u50, u51, u52, u53, u54, u55, u56, u57, u58, u59, u60, u61, u62, u63, u64, u65, u66, u67, u68, u69, u70, u71, u72, u73, u74, u75, u76, u77, u78, u79, u80, u81, u82, u83, u84, u85, u86, u87, u88, u89, u90, u91, u92, u93, u94, u95, u96, u97, u98, u99, u100, u101, u102, u103, u104, u105, u106, u107, u108, u109, u110, u111, u112, u113, u114, u115, u116, u117, u118, u119, u120, u121, u122, u123, u124, u125, u126, u127, u128, u129, u130, u131, u132, u133, u134, u135, u136, u137, u138, u139, u140, u141, u142, u143, u144, u145, u146, u147, u148, u149, u150, u151, u152, u153, u154, u155, u156, u157, u158, u159, u160, u161, u162, u163, u164, u165, u166, u167, u168, u169, u170, u171, u172, u173, u174, u175, u176, u177, u178, u179, u180, u181, u182, u183, u184, u185, u186, u187, u188, u189, u190, u191, u192, u193, u194, u195, u196, u197, u198, u199, u200, u201, u202, u203, u204, u205, u206, u207, u208, u209, u210, u211, u212, u213, u214, u215, u216, u217, u218, u219, u220, u221, u222, u223, u224, u225, u226, u227, u228, u229, u230, u231, u232, u233, u234, u235, u236, u237, u238, u239, u240, u241, u242, u243, u244, u245, u246, u247, u248, u249, u250, u251, u252, u253, u254, u255, u256, u257, u258, u259, u260, u261, u262, u263, u264, u265, u266, u267, u268, u269, u270, u271, u272, u273, u274, u275, u276, u277, u278, u279, u280, u281, u282, u283, u284, u285, u286, u287, u288, u289, u290, u291, u292, u293, u294, u295, u296, u297, u298, u299, u300, u301, u302, u303, u304, u305, u306, u307, u308, u309, u310, u311, u312, u313, u314, u315, u316, u317, u318, u319, u320, u321, u322, u323, u324, u325, u326, u327, u328, u329, u330, u331, u332, u333, u334, u335, u336, u337, u338, u339, u340, u341, u342, u343, u344, u345], []⟩ w := by
  conv at hK => intro a' w'; lhs; arg 2; whnf
  conv => arg 2; whnf
  obtain ⟨rc1, rc2⟩ := row_cells HT.out
  have cv1 := run_convert_bytes_back (P := Try.prog) w 33 9 5 ⟨P, 0, none⟩ Z (patL ks ts n) Try.underlying33 Try.underlying5 Try.underlying9 rc1
  have cv2 := run_convert_bytes_back (P := Try.prog) w 33 9 5 ⟨R, 0, none⟩ Z (pthL ks ts vs n) Try.underlying33 Try.underlying5 Try.underlying9 rc2
  obtain ⟨pat, hpat⟩ : ∃ pat : ByteArray, pat = ⟨(patL ks ts n).toArray⟩ := ⟨_, rfl⟩
  obtain ⟨pth, hpth⟩ : ∃ pth : ByteArray, pth = ⟨(pthL ks ts vs n).toArray⟩ := ⟨_, rfl⟩
  rw [← hpat] at cv1
  rw [← hpth] at cv2
  have Hpat : Hid (pat.data.toList = patL ks ts n) := by show _ = _; rw [hpat]
  have Hpth : Hid (pth.data.toList = pthL ks ts vs n) := by show _ = _; rw [hpth]
  have hps : pat.size ≤ 1048576 := by rw [Lib.size_eq, Hpat.out]; omega
  have hqs : pth.size ≤ 1048576 := by rw [Lib.size_eq, Hpth.out]; omega
  clear rc1 rc2 hpat hpth
  go_wp2
  clear cv1 cv2
  go_loopw [11, 24, 25] (fun kk rr ff wr => ∃ (j : Nat) (rs : ByteArray), j ≤ n ∧ kk = .int .i64 (nm ks j) ∧ rr = .string rs ∧ ff = .int .u32 (en ks ts j) ∧ Hid (rs.data.toList = (pthL ks ts vs n).drop (pthL ks ts vs j).length) ∧
      Hid (j = 0 ∨ ∃ x, j = x + 1 ∧ ¬ ks x = 0) ∧ rs.size ≤ 1048576 ∧ Below w.heap.size w wr) (fun kk _ _ _ => nm ks n - (intOf kk).toNat)
  case atStart => exact ⟨0, pth, Nat.zero_le _, rfl, rfl, rfl, Hpth, Or.inl rfl, hqs, Below.refl _ _⟩
  case round =>
    obtain ⟨j, rs, hj, rfl, rfl, rfl, hrs, hlast, hrsz, hbw⟩ := hrel
    have hnj := nm_le ks j
    have hnn := nm_le ks n
    by_cases hlt : nm ks j < nm ks n
    · obtain ⟨i, L, q, f1, f2, f3, f4, f5, f6, f7, f8, f9, f10, f11, f12, f13, f14⟩ := take_facts ks ts vs n j pat rs HKO.out HVO.out hj hlt Hpat.out hrs.out
      obtain ⟨p1, p2⟩ := plc_at ks ts i n f2 f4
      rw [f3] at p1 p2
      obtain ⟨c1, c2⟩ := HST.out (nm ks j) hlt
      rw [p1] at c1
      rw [p2] at c2
      obtain ⟨st, hst⟩ : ∃ st : Nat, st = en ks ts i + 2 := ⟨_, rfl⟩
      obtain ⟨e, he⟩ : ∃ e : Nat, e = en ks ts i + 2 + (ts i).size := ⟨_, rfl⟩
      rw [← hst] at c1
      rw [← he] at c2
      have d1 : wr.cell? ⟨s, nm ks j, none⟩ = some (.int .u32 st) := (hbw.cell (p := ⟨s, nm ks j, none⟩) (World.block_lt_of_cell? w _ c1)).trans c1
      have d2 : wr.cell? ⟨t, nm ks j, none⟩ = some (.int .u32 e) := (hbw.cell (p := ⟨t, nm ks j, none⟩) (World.block_lt_of_cell? w _ c2)).trans c2
      have g1 : 2 ≤ st := by omega
      have g2 : en ks ts j + L + 2 ≤ st := by omega
      have g3 : st ≤ e := by omega
      have g4 : e ≤ pat.size := by omega
      have HL : Hid (en ks ts j + L + 2 = st) := by show _ = _; omega
      have HST2 : Hid (st = en ks ts i + 2) := hst
      have HE2 : Hid (e = en ks ts (i + 1)) := by show _ = _; rw [en_named ks ts i f4]; exact he
      have HNI : Hid (nm ks (i + 1) = nm ks j + 1) := by show _ = _; rw [nm_named ks i f4, f3]
      have k1 : decide ((st : Int) < 2) = false := by simp; omega
      have k2 : decide ((st : Int) - 2 < (en ks ts j : Int)) = false := by simp; omega
      have k3 : decide ((e : Int) < (st : Int)) = false := by simp; omega
      have k4 : decide ((pat.size : Int) < (e : Int)) = false := by simp; omega
      have kj : (nm ks j : Int) < (nm ks n : Int) := by omega
      have kw : IntKind.u32.wrap ((st : Int) - 2) = (st : Int) - 2 := wrap32_id _ (by omega) (by omega)
      have kw1 : IntKind.u64.wrap (e : Int) = (e : Int) := wrap64_id _ (by omega) (by omega)
      have kw2 : IntKind.u64.wrap (pat.size : Int) = (pat.size : Int) := wrap64_id _ (by omega) (by omega)
      have HF : Hid (((bt pat (en ks ts i + 1) = 42 ∧ q = rs.size) ∨ (¬ bt pat (en ks ts i + 1) = 42 ∧ L + 1 < q ∧ (∀ x, L < x → x < q → ¬ bt rs x = 47) ∧ (q < rs.size → bt rs q = 47)))) := by
        rcases f14 with h | h
        · exact Or.inl h.2
        · exact Or.inr h
      have H7 : Hid ((rs.extract 0 L).toList = (pat.extract (en ks ts j) (en ks ts i)).toList) := f7
      have H8 : Hid (bt rs L = 47) := f8
      have H12 : Hid (rs.extract (L + 1) q = vs (nm ks j)) := f12
      have H13 : Hid ((rs.extract q rs.size).data.toList = (pthL ks ts vs n).drop (pthL ks ts vs (i + 1)).length) := f13
      clear f14 f7 f8 f12 f13 c1 c2 p1 p2 hst he f3 f5
      go_upto_region 79 with fail
      go_quiet (fail)
      go_upto_region 81 with fail
      have hbq : Below w.heap.size w (wr.drewN nq) := below_drewN hbw _
      have l1 : s < wr.heap.size := World.block_lt_of_cell? wr _ d1
      have l2 : t < wr.heap.size := World.block_lt_of_cell? wr _ d2
      obtain ⟨bv, ov, rfl, hv0, -⟩ := HV.out (nm ks j) hlt
      have lv : bv < w0.heap.size := World.block_lt_of_cell? w0 _ hv0
      have dv : wr.cell? ⟨bv, ov + nm ks j, none⟩ = some (.string (vs (nm ks j))) := (hbw.cell (p := ⟨bv, ov + nm ks j, none⟩) (Nat.lt_of_lt_of_le lv hbel.size)).trans ((hbel.cell (p := ⟨bv, ov + nm ks j, none⟩) lv).trans hv0)
      have lv2 : bv < wr.heap.size := World.block_lt_of_cell? wr _ dv
      obtain ⟨rn, hrn⟩ : ∃ rn : ByteArray, rn = rs.extract q rs.size := ⟨_, rfl⟩
      have HRN : Hid (rs.extract q rs.size = rn) := hrn.symm
      have hrnz : rn.size ≤ 1048576 := by rw [hrn]; simp; omega
      clear hrn
      go_region_held3 (fun w' => w'.cell? ⟨s, nm ks j, none⟩ = some (.int .u32 st) ∧ w'.cell? ⟨t, nm ks j, none⟩ = some (.int .u32 e)) (first | go_keep | exact ⟨(hb.cell (p := ⟨s, nm ks j, none⟩) (by simpa using l1)).trans (by simpa using d1), (hb.cell (p := ⟨t, nm ks j, none⟩) (by simpa using l2)).trans (by simpa using d2)⟩)
        ((go_at_call 9; refine (zztake_vr st e (en ks ts j) L q pat rs (vs (nm ks j)) rn _ hps hrsz HL g3 g4 (by omega) (by rw [H7.out, HST2.out]; rfl) H8.out (by rw [HST2.out]; exact HF.out) f11 H12.out HRN.out).mono ?_; rintro e' w' ⟨rfl, hb⟩))
      have hbn : Below w.heap.size w w' := hbq.drew.trans (hb.mono (by have := hbw.size; simpa using this))
      have dv' : w'.cell? ⟨bv, ov + nm ks j, none⟩ = some (.string (vs (nm ks j))) := (hb.cell (p := ⟨bv, ov + nm ks j, none⟩) (by simpa using lv2)).trans (by simpa using dv)
      have d2' : w'.cell? ⟨t, nm ks j, none⟩ = some (.int .u32 e) := (hb.cell (p := ⟨t, nm ks j, none⟩) (by simpa using l2)).trans (by simpa using d2)
      clear hb hbq dv d1 d2 hbw
      go_wp2
      go_roundw
      case rel => exact ⟨i + 1, rn, by omega, by rw [HNI.out]; go_num, rfl, by rw [HE2.out], by show _ = _; rw [← HRN.out]; exact H13.out, Or.inr ⟨i, rfl, f4⟩, hrnz, hbn⟩
      case measure => simp [intOf]; omega
    · have HJ : Hid (nm ks j = nm ks n) := by show _ = _; have := nm_mono ks j n hj; omega
      by_cases hz : nm ks n = 0
      · have hzb : ((nm ks n : Int) == 0) = true := by simp [hz]
        clear hz
        go_wp2
        go_ret
        exact ⟨rfl, hbel.trans (hbw.mono hbel.size)⟩
      · have hzb : ((nm ks n : Int) == 0) = false := by simp [hz]
        have HTL : Hid (tlN ks ts vs n = (pthL ks ts vs j).length) := tlN_last ks ts vs j n hj HJ.out hlast.out (by omega)
        have htl := tlN_le ks ts vs n
        have hRb : R < w.heap.size := (HT.out.snd.lt R rfl).2
        obtain ⟨_, rc2⟩ := row_cells HT.out
        have cv3 := conv_tail wr R Z (tlN ks ts vs n) (pthL ks ts vs n) htl (fun x hx => by
          rw [hbw.cell (p := ⟨R, x, none⟩) hRb]
          have := rc2 x hx
          rwa [add0] at this)
        have hEq : Hid ((rs.toList == (pthL ks ts vs n).drop (tlN ks ts vs n)) = true) := by
          show _ = _
          rw [Lib.toList_data, hrs.out, HTL.out]; simp
        have hlz : tlN ks ts vs n < Z := by omega
        have hne : ¬ Z = tlN ks ts vs n := by omega
        clear hz rc2
        go_wp2
        go_ret
        exact ⟨ret_bool hEq.out, hbel.trans (hbw.mono hbel.size)⟩

end Go.Proofs.Qxb6602171a
