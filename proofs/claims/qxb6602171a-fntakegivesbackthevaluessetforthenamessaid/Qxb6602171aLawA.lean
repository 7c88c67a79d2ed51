/-
  The law on take, its first part: the checks.
-/
import Derived.Test.Qxb6602171aLawB
namespace Go.Proofs.Qxb6602171a
open Go.ChangeShapes Go.WideShapes Go.ChangeAt Go.RowKit

set_option maxRecDepth 1000000 in
set_option maxHeartbeats 8000000 in
theorem law_walk (a v : Option Addr) (n c m d : Nat) (ks : Nat → Int) (ts vs : Nat → ByteArray) (w : World) (hs : SegIn w a n ks ts) (hv : StrIn w v m vs) (hn : n ≤ maxLen) (hm : m ≤ maxLen) :
    Calls Try.prog 4 #[.slice a n c, .slice v m d] w fun e w' => e = .returned (.bool true) ∧ Below w.heap.size w w' := by
  have CB := bytes_any a v n c m d ks ts vs w hs hv hn hm
  have HB : Hid (Calls Try.prog 11 #[.slice a n c, .slice v m d] w fun e w' => SomeBool ts vs n m e ∧ w = w') := CB
  unfold maxLen at hn hm
  have HS : Hid (SegIn w a n ks ts) := hs
  have HV : Hid (StrIn w v m vs) := hv
  clear hs hv CB
  go_enter Try.func4, Try.ntmps4
  go_wp2_with fail
  refine (HB.out).mono ?_
  rintro e w' ⟨hsome, rfl⟩
  rcases hsome with rfl | ⟨rfl, hts, hvs⟩
  · go_wp2
    go_ret
    exact ⟨rfl, Below.refl _ _⟩
  · clear HB
    have HTS : Hid (Short ts n) := hts
    have HVS : Hid (Short vs m) := hvs
    clear hts hvs
    by_cases hn16 : n ≤ 65536
    · by_cases hm16 : m ≤ 65536
      · go_wp2
        go_loop [5, 6] (fun zz ii => ∃ (k : Nat), k ≤ n ∧ ii = .int .i64 k ∧ zz = .int .i64 (24 * (n : Int) + 16 * (m : Int) + (tsum ts k : Int)) ∧ (k = 0 ∨ 24 * (n : Int) + 16 * (m : Int) + (tsum ts k : Int) ≤ 1048576)) (fun _ ii => n - (intOf ii).toNat)
        case atStart => exact ⟨0, Nat.zero_le _, rfl, by show Value.int .i64 _ = .int .i64 (_ + 0); rw [Int.add_zero], Or.inl rfl⟩
        case round =>
          obtain ⟨k, hk, rfl, rfl, hz⟩ := hrel
          have hz0 : tsum ts k ≤ 1048576 := tsum_bound ts k _ hz (by omega)
          clear hz
          by_cases hlt : k < n
          · obtain ⟨b, off, rfl, hc0, hc1, -, -, -⟩ := HS.out k hlt
            have htk := HTS.out k hlt
            have HT1 : Hid (tsum ts (k + 1) = tsum ts k + (ts k).size) := rfl
            go_wp2
            · go_ret
              exact ⟨rfl, Below.refl _ _⟩
            · go_round
              case rel => exact ⟨k + 1, by omega, by go_num, by rw [HT1.out]; go_num, Or.inr (by rw [HT1.out]; omega)⟩
              case measure => simp [intOf]; omega
          · obtain rfl : n = k := by omega
            clear hlt hk
            go_wp2
            go_loop [5, 7] (fun zz ii => ∃ (k : Nat), k ≤ m ∧ ii = .int .i64 k ∧ zz = .int .i64 (24 * (n : Int) + 16 * (m : Int) + (tsum ts n : Int) + (tsum vs k : Int)) ∧ (k = 0 ∨ 24 * (n : Int) + 16 * (m : Int) + (tsum ts n : Int) + (tsum vs k : Int) ≤ 1048576)) (fun _ ii => m - (intOf ii).toNat)
            case atStart => exact ⟨0, Nat.zero_le _, rfl, by show Value.int .i64 _ = .int .i64 (_ + 0); rw [Int.add_zero], Or.inl rfl⟩
            case round =>
              obtain ⟨k, hk, rfl, rfl, hz⟩ := hrel
              have hz0' : tsum vs k ≤ 1048576 := tsum_bound vs k _ hz (by omega)
              clear hz
              by_cases hlt : k < m
              · obtain ⟨b, off, rfl, hc0, -⟩ := HV.out k hlt
                have htk := HVS.out k hlt
                have HT1 : Hid (tsum vs (k + 1) = tsum vs k + (vs k).size) := rfl
                go_wp2
                · go_ret
                  exact ⟨rfl, Below.refl _ _⟩
                · go_round
                  case rel => exact ⟨k + 1, by omega, by go_num, by rw [HT1.out]; go_num, Or.inr (by rw [HT1.out]; omega)⟩
                  case measure => simp [intOf]; omega
              · obtain rfl : m = k := by omega
                clear hlt hk
                by_cases hS : 24 * n + 16 * m + tsum ts n + tsum vs m ≤ 1048576
                · clear hz0 hz0' HTS HVS
                  go_wp2
                  go_loop [8, 9] (fun nn ii => ∃ (k : Nat), k ≤ n ∧ ii = .int .i64 k ∧ nn = .int .i64 (nm ks k) ∧ Hid (KindOK ks n k)) (fun _ ii => n - (intOf ii).toNat)
                  case atStart => exact ⟨0, Nat.zero_le _, rfl, rfl, fun i h => absurd h (Nat.not_lt_zero i)⟩
                  case round =>
                    obtain ⟨k, hk, rfl, rfl, hko⟩ := hrel
                    have hnk := nm_le ks k
                    by_cases hlt : k < n
                    · obtain ⟨b, off, rfl, hc0, hc1, h0, h1, -⟩ := HS.out k hlt
                      by_cases h3 : ks k ≤ 3
                      · rcases (show ks k = 0 ∨ ks k = 1 ∨ ((ks k = 2 ∨ ks k = 3) ∧ k + 1 = n) ∨ ((ks k = 2 ∨ ks k = 3) ∧ ¬ k + 1 = n) by omega) with h | h | ⟨h, hl⟩ | ⟨h, hl⟩
                        · have HN : Hid (nm ks (k + 1) = nm ks k) := nm_static ks k h
                          have hko' : Hid (KindOK ks n (k + 1)) := hko.out.next ⟨by omega, by omega, by omega⟩
                          clear hko
                          go_wp2
                          go_round
                          case rel => exact ⟨k + 1, by omega, by go_num, by rw [HN.out], hko'⟩
                          case measure => simp [intOf]; omega
                        · have HN : Hid (nm ks (k + 1) = nm ks k + 1) := nm_named ks k (by omega)
                          have hko' : Hid (KindOK ks n (k + 1)) := hko.out.next ⟨by omega, by omega, by omega⟩
                          clear hko
                          go_wp2
                          go_round
                          case rel => exact ⟨k + 1, by omega, by go_num, by rw [HN.out]; go_num, hko'⟩
                          case measure => simp [intOf]; omega
                        · have HN : Hid (nm ks (k + 1) = nm ks k + 1) := nm_named ks k (by omega)
                          have hko' : Hid (KindOK ks n (k + 1)) := hko.out.next ⟨by omega, by omega, fun _ => hl⟩
                          have hkl : (k : Int) = (n : Int) - 1 := by omega
                          have HKL : Hid ((k : Int) = (n : Int) - 1) := hkl
                          have hkb : ((k : Int) != (n : Int) - 1) = false := by simp [hkl]
                          clear hko hl hkl
                          rcases h with h | h
                          all_goals
                            go_wp2
                            go_round
                            case rel => exact ⟨k + 1, by omega, by go_num, by rw [HN.out]; go_num, hko'⟩
                            case measure => simp [intOf]; omega
                        · have hkb : ((k : Int) != (n : Int) - 1) = true := by simp; omega
                          rcases h with h | h
                          all_goals
                            go_wp2
                            go_ret
                            exact ⟨rfl, Below.refl _ _⟩
                      · go_wp2
                        go_ret
                        exact ⟨rfl, Below.refl _ _⟩
                    · obtain rfl : n = k := by omega
                      clear hlt hk
                      by_cases hmn : m = nm ks n
                      · subst hmn
                        go_wp2
                        go_loop [11, 12] (fun nn ii => ∃ (k : Nat), k ≤ n ∧ ii = .int .i64 k ∧ nn = .int .i64 (nm ks k) ∧ Hid (ValOK ks vs k)) (fun _ ii => n - (intOf ii).toNat)
                        case atStart => exact ⟨0, Nat.zero_le _, rfl, rfl, fun i h => absurd h (Nat.not_lt_zero i)⟩
                        case round =>
                          obtain ⟨k, hk, rfl, rfl, hvo⟩ := hrel
                          have hnk' := nm_le ks k
                          by_cases hlt : k < n
                          · obtain ⟨b, off, rfl, hc0, hc1, h0, h1, -⟩ := HS.out k hlt
                            have h3 := (hko.out k hlt).2.1
                            have hmono := nm_mono ks (k + 1) n (by omega)
                            by_cases hz : ks k = 0
                            · have HN : Hid (nm ks (k + 1) = nm ks k) := nm_static ks k hz
                              have hvo' : Hid (ValOK ks vs (k + 1)) := hvo.out.next (fun h => absurd hz h)
                              clear hvo hmono
                              go_wp2
                              go_round
                              case rel => exact ⟨k + 1, by omega, by go_num, by rw [HN.out], hvo'⟩
                              case measure => simp [intOf]; omega
                            · have HN : Hid (nm ks (k + 1) = nm ks k + 1) := nm_named ks k hz
                              have hkm : nm ks k < nm ks n := by rw [HN.out] at hmono; omega
                              clear hmono
                              have hzb : (ks k == 0) = false := by simp [hz]
                              by_cases h2 : ks k = 2
                              · have hvo' : Hid (ValOK ks vs (k + 1)) := hvo.out.next (fun _ h => absurd h2 h)
                                have h2b : (ks k != 2) = false := by simp [h2]
                                clear hvo hz
                                go_wp2
                                go_round
                                case rel => exact ⟨k + 1, by omega, by go_num, by rw [HN.out]; go_num, hvo'⟩
                                case measure => simp [intOf]; omega
                              · have h2b : (ks k != 2) = true := by simp [h2]
                                obtain ⟨b', off', rfl, hd0, hd1⟩ := HV.out (nm ks k) hkm
                                by_cases hE : (vs (nm ks k)).toList.isEmpty = true
                                · go_wp2
                                  go_ret
                                  exact ⟨rfl, Below.refl _ _⟩
                                · have hE' : (vs (nm ks k)).toList.isEmpty = false := by simpa using hE
                                  by_cases hH : hasSlB (vs (nm ks k)) (vs (nm ks k)).size = true
                                  · clear hE hvo hz h2
                                    go_wp2_with (go_at_call 10; refine (hasSlash_any _ _ hd1).mono ?_; rintro e w' ⟨rfl, rfl⟩)
                                    go_ret
                                    exact ⟨rfl, Below.refl _ _⟩
                                  · have hH' : hasSlB (vs (nm ks k)) (vs (nm ks k)).size = false := by simpa using hH
                                    have hvo' : Hid (ValOK ks vs (k + 1)) := hvo.out.next (fun _ _ => ⟨hE', hH'⟩)
                                    clear hE hH hvo hz h2
                                    go_wp2_with (go_at_call 10; refine (hasSlash_any _ _ hd1).mono ?_; rintro e w' ⟨rfl, rfl⟩)
                                    go_round
                                    case rel => exact ⟨k + 1, by omega, by go_num, by rw [HN.out]; go_num, hvo'⟩
                                    case measure => simp [intOf]; omega
                          · obtain rfl : n = k := by omega
                            clear hlt hk
                            have hZ0 : 24 * (n : Int) + 16 * (nm ks n : Int) + (tsum ts n : Int) + (tsum vs (nm ks n) : Int) ≤ 1048576 := by omega
                            go_upto_region 41 with fail
                            exact stageB (by assumption) HS HV hn16 hko hvo (Int.le_refl _) hZ0
                      · have hmb : ((m : Int) != (nm ks n : Int)) = true := by simp; omega
                        go_wp2
                        go_ret
                        exact ⟨rfl, Below.refl _ _⟩
                · go_wp2
                  go_ret
                  exact ⟨rfl, Below.refl _ _⟩
      · go_wp2
        go_ret
        exact ⟨rfl, Below.refl _ _⟩
    · go_wp2
      go_ret
      exact ⟨rfl, Below.refl _ _⟩

end Go.Proofs.Qxb6602171a
