import Derived.Test.Qxb6606399aDoorSmall
namespace Go.Proofs.Qxb6606399aDoor
open Go.RowKit

theorem nd_more' (l : List UInt8) (i k : Nat) (h : i ≤ k) (hk : k - i ≤ nd (l.drop i)) (hl : k < l.length) (hd : digB l[k] = true) : k + 1 - i ≤ nd (l.drop i) := by
  have := nd_more (l.drop i) (k - i) hk (by rw [List.length_drop]; omega) (by
    rw [List.getElem_drop]
    have e : i + (k - i) = k := by omega
    simp only [e]
    exact hd)
  omega
theorem nd_stop' (l : List UInt8) (i k : Nat) (h : i ≤ k) (hk : k - i ≤ nd (l.drop i)) (hd : ∀ hl : k < l.length, digB l[k] = false) : nd (l.drop i) = k - i :=
  nd_stop (l.drop i) (k - i) hk (fun hl => by
    rw [List.length_drop] at hl
    rw [List.getElem_drop]
    have e : i + (k - i) = k := by omega
    simp only [e]
    exact hd (by omega))
theorem drop_at (l : List UInt8) (e : Nat) (h : e < l.length) : l.drop e = l[e] :: l.drop (e + 1) := List.drop_eq_getElem_cons h
theorem ndl (l : List UInt8) (i : Nat) : nd (l.drop i) ≤ l.length - i := by have := nd_le (l.drop i); rwa [List.length_drop] at this

theorem valid_none (p : Option Addr) (c : Nat) (w : World) : Calls Tryd.prog 7 #[.slice p 0 c] w fun e w' => e = .returned (.bool false) ∧ w = w' := by
  go_enter Tryd.func7, Tryd.ntmps7
  go_wp2
  go_ret
  exact ⟨rfl, rfl⟩

set_option maxRecDepth 100000 in
set_option maxHeartbeats 4000000 in
theorem valid_row (b off c : Nat) (l : List UInt8) (h0 : 0 < l.length) (hl : l.length ≤ 1073741824) (w : World) (hc : CellsL w b off l) :
    Calls Tryd.prog 7 #[.slice (some ⟨b, off, none⟩) l.length c] w fun e w' => e = .returned (.bool (validB l)) ∧ w = w' := by
  have HC := hide hc
  obtain ⟨x0, hx0, HX0⟩ : ∃ x : Nat, w.cell? ⟨b, off, none⟩ = some (.int .u8 (x : Int)) ∧ Hid (x = (l[0]).toNat) := ⟨(l[0]).toNat, hc 0 h0, rfl⟩
  have HV : Hid (validB l = if l[0] = 45 then intB (l.drop 1) else intB l) := by
    rw [Hid]
    cases l with
    | nil => simp at h0
    | cons c r => exact validB_cons c r
  clear hc
  obtain ⟨V, hV⟩ : ∃ V, Hid (V = validB l) := ⟨_, rfl⟩
  rw [← hV.out] at HV ⊢
  go_enter Tryd.func7, Tryd.ntmps7
  go_upto_if 18 with fail
  go_cut [4] (fun iv wx => ∃ k : Nat, iv = .int .i64 (k : Nat) ∧ k ≤ l.length ∧ Hid (V = intB (l.drop k)) ∧ w = wx)
  case first =>
    as_aux_lemma =>
      by_cases h45 : l[0] = 45
      · obtain rfl : x0 = 45 := by rw [HX0.out, h45]; rfl
        go_wp2_with fail
        go_meet
        case rel => exact ⟨1, rfl, by omega, by rw [Hid, HV.out, if_pos h45], rfl⟩
      · have hne : ((x0 : Int) == 45) = false := beq_eq_false_iff_ne.2 (fun e => h45 (UInt8.toNat_inj.1 (by rw [← HX0.out]; show x0 = 45; omega)))
        go_wp2_with fail
        go_meet
        case rel => exact ⟨0, rfl, by omega, by rw [Hid, HV.out, if_neg h45]; rfl, rfl⟩
  case rest =>
    obtain ⟨k1, rfl, hk1, HV1, rfl⟩ := hcut
    clear HV HX0 hx0
    by_cases hk1l : k1 < l.length
    · have hk1z : (k1 : Int) < (l.length : Int) := by omega
      obtain ⟨x1, hx1, HX1⟩ : ∃ x : Nat, w.cell? ⟨b, off + k1, none⟩ = some (.int .u8 (x : Int)) ∧ Hid (x = (l[k1]).toNat) := ⟨(l[k1]).toNat, (unhide HC) k1 hk1l, rfl⟩
      have HV1' : Hid (V = if l[k1] = 48 then fracB (l.drop (k1 + 1)) else if 49 ≤ (l[k1]).toNat ∧ (l[k1]).toNat ≤ 57 then fracB ((l.drop k1).drop (nd (l.drop k1))) else false) := by
        rw [Hid, HV1.out, drop_at l k1 hk1l]; exact intB_cons _ _
      clear HV1
      have hk1e : ((k1 : Int) == (l.length : Int)) = false := beq_eq_false_iff_ne.2 (by omega)
      go_upto_if 28 with fail
      go_cut [4] (fun iv wx => ∃ k : Nat, iv = .int .i64 (k : Nat) ∧ k ≤ l.length ∧ Hid (V = fracB (l.drop k)) ∧ w = wx)
      case first =>
        as_aux_lemma =>
          by_cases h48 : l[k1] = 48
          · obtain rfl : x1 = 48 := by rw [HX1.out, h48]; rfl
            go_wp2_with fail
            go_meet
            case rel => exact ⟨k1 + 1, by go_num, by omega, by rw [Hid, HV1'.out, if_pos h48], rfl⟩
          · have hne : ((x1 : Int) == 48) = false := beq_eq_false_iff_ne.2 (fun e => h48 (UInt8.toNat_inj.1 (by rw [← HX1.out]; show x1 = 48; omega)))
            by_cases hd : 49 ≤ (l[k1]).toNat ∧ (l[k1]).toNat ≤ 57
            · have HV2 : Hid (V = fracB (l.drop (k1 + nd (l.drop k1)))) := by
                rw [Hid, HV1'.out, if_neg h48, if_pos hd, List.drop_drop]
              rw [← HX1.out] at hd
              have hd1 : 49 ≤ (x1 : Int) := by omega
              have hd2 : (x1 : Int) ≤ 57 := by omega
              clear HV1' hd
              simp only [hne]
              go_wp2_with fail
              go_loopg [4] (l.length - (k1)) (fun g iv wr => ∃ k : Nat, g = l.length - k ∧ k1 ≤ k ∧ k ≤ l.length ∧ Hid (k - (k1) ≤ nd (l.drop (k1))) ∧ iv = .int .i64 (k : Nat) ∧ w = wr)
              case atStart => exact ⟨k1, rfl, Nat.le_refl _, hk1, by rw [Hid, Nat.sub_self]; exact Nat.zero_le _, by go_num, rfl⟩
              case round =>
                obtain ⟨k, rfl, hik, hkl, HN, rfl, rfl⟩ := hrel
                by_cases hkn : k < l.length
                · have hkz : (k : Int) < (l.length : Int) := by omega
                  have HCk := hide ((unhide HC) k hkn)
                  obtain ⟨xk, hcx, HXk⟩ : ∃ x : UInt8, w.cell? ⟨b, off + k, none⟩ = some (.int .u8 (x.toNat : Int)) ∧ Hid (x = l[k]) := ⟨l[k], unhide HCk, rfl⟩
                  clear HCk
                  go_wp2_with fail
                  refine (dig_is xk w).mono ?_
                  rintro e w1 ⟨rfl, rfl⟩
                  by_cases hdg : digB xk = true
                  · rw [hdg]
                    have HN2 := hide (nd_more' l (k1) k hik (unhide HN) hkn (by rw [← HXk.out]; exact hdg))
                    go_wp2_with fail
                    go_roundg (l.length - (k + 1))
                    case measure => omega
                    case rel => exact ⟨k + 1, rfl, by omega, by omega, HN2, by go_num, rfl⟩
                  · have hdg' : digB xk = false := by simpa using hdg
                    rw [hdg']
                    have HE := hide (nd_stop' l (k1) k hik (unhide HN) (fun _ => by rw [← HXk.out]; exact hdg'))
                    clear hdg hdg' HXk hcx
                    go_wp2_with fail
                    go_meet
                    case rel => exact ⟨k, rfl, hkl, by rw [Hid, HV2.out, unhide HE]; congr 2; omega, rfl⟩
                · have hkz : ¬ ((k : Int) < (l.length : Int)) := by omega
                  have HE := hide (nd_stop' l (k1) k hik (unhide HN) (fun h => absurd h hkn))
                  go_wp2_with fail
                  go_meet
                  case rel => exact ⟨k, rfl, hkl, by rw [Hid, HV2.out, unhide HE]; congr 2; omega, rfl⟩
            · have HV2 : Hid (V = false) := by
                rw [Hid, HV1'.out, if_neg h48, if_neg hd]
              rw [← HX1.out] at hd
              clear HV1'
              by_cases hd1 : 49 ≤ (x1 : Int)
              · have hd2 : ¬ ((x1 : Int) ≤ 57) := by omega
                clear hd
                go_wp2_with fail
                go_ret
                exact ⟨by rw [HV2.out]; rfl, rfl⟩
              · clear hd
                go_wp2_with fail
                go_ret
                exact ⟨by rw [HV2.out]; rfl, rfl⟩
      case rest =>
        obtain ⟨k2, rfl, hk2, HV2, rfl⟩ := hcut
        clear HV1' HX1 hx1
        by_cases hk2l : k2 < l.length
        · have hk2z : (k2 : Int) < (l.length : Int) := by omega
          obtain ⟨x2, hx2, HX2⟩ : ∃ x : Nat, w.cell? ⟨b, off + k2, none⟩ = some (.int .u8 (x : Int)) ∧ Hid (x = (l[k2]).toNat) := ⟨(l[k2]).toNat, (unhide HC) k2 hk2l, rfl⟩
          have HV2' : Hid (V = if l[k2] = 46 then decide (0 < nd (l.drop (k2 + 1))) && expB ((l.drop (k2 + 1)).drop (nd (l.drop (k2 + 1)))) else expB (l.drop k2)) := by
            rw [Hid, HV2.out, drop_at l k2 hk2l]; exact fracB_cons _ _
          clear HV2
          go_upto_if 64 with fail
          go_cut [4] (fun iv wx => ∃ k : Nat, iv = .int .i64 (k : Nat) ∧ k ≤ l.length ∧ Hid (V = expB (l.drop k)) ∧ w = wx)
          case first =>
            as_aux_lemma =>
              by_cases h46 : l[k2] = 46
              · obtain rfl : x2 = 46 := by rw [HX2.out, h46]; rfl
                have HV3 : Hid (V = (decide (0 < nd (l.drop (k2 + 1))) && expB (l.drop (k2 + 1 + nd (l.drop (k2 + 1)))))) := by
                  rw [Hid, HV2'.out, if_pos h46, List.drop_drop]
                clear HV2' HX2 hx2 h46
                have hk3 : k2 + 1 ≤ l.length := by omega
                go_wp2_with fail
                go_loopg [4] (l.length - (k2 + 1)) (fun g iv wr => ∃ k : Nat, g = l.length - k ∧ k2 + 1 ≤ k ∧ k ≤ l.length ∧ Hid (k - (k2 + 1) ≤ nd (l.drop (k2 + 1))) ∧ iv = .int .i64 (k : Nat) ∧ w = wr)
                case atStart => exact ⟨k2 + 1, rfl, Nat.le_refl _, hk3, by rw [Hid, Nat.sub_self]; exact Nat.zero_le _, by go_num, rfl⟩
                case round =>
                  obtain ⟨k, rfl, hik, hkl, HN, rfl, rfl⟩ := hrel
                  by_cases hkn : k < l.length
                  · have hkz : (k : Int) < (l.length : Int) := by omega
                    have HCk := hide ((unhide HC) k hkn)
                    obtain ⟨xk, hcx, HXk⟩ : ∃ x : UInt8, w.cell? ⟨b, off + k, none⟩ = some (.int .u8 (x.toNat : Int)) ∧ Hid (x = l[k]) := ⟨l[k], unhide HCk, rfl⟩
                    clear HCk
                    go_wp2_with fail
                    refine (dig_is xk w).mono ?_
                    rintro e w1 ⟨rfl, rfl⟩
                    by_cases hdg : digB xk = true
                    · rw [hdg]
                      have HN2 := hide (nd_more' l (k2 + 1) k hik (unhide HN) hkn (by rw [← HXk.out]; exact hdg))
                      go_wp2_with fail
                      go_roundg (l.length - (k + 1))
                      case measure => omega
                      case rel => exact ⟨k + 1, rfl, by omega, by omega, HN2, by go_num, rfl⟩
                    · have hdg' : digB xk = false := by simpa using hdg
                      rw [hdg']
                      have HE := hide (nd_stop' l (k2 + 1) k hik (unhide HN) (fun _ => by rw [← HXk.out]; exact hdg'))
                      clear hdg hdg' HXk hcx
                      by_cases hz : k = k2 + 1
                      · subst hz
                        have HF : Hid (V = false) := by rw [Hid, HV3.out, unhide HE, Nat.sub_self]; rfl
                        go_wp2_with fail
                        go_ret
                        exact ⟨by rw [HF.out]; rfl, rfl⟩
                      · have hzz : ((k : Int) == (k2 : Int) + 1) = false := beq_eq_false_iff_ne.2 (by omega)
                        have HF : Hid (V = expB (l.drop k)) := by
                          rw [Hid, HV3.out, unhide HE]
                          rw [decide_eq_true (by omega), Bool.true_and]
                          congr 2
                          omega
                        go_wp2_with fail
                        go_meet
                        case rel => exact ⟨k, rfl, hkl, HF, rfl⟩
                  · have hkz : ¬ ((k : Int) < (l.length : Int)) := by omega
                    have HE := hide (nd_stop' l (k2 + 1) k hik (unhide HN) (fun h => absurd h hkn))
                    by_cases hz : k = k2 + 1
                    · subst hz
                      have HF : Hid (V = false) := by rw [Hid, HV3.out, unhide HE, Nat.sub_self]; rfl
                      go_wp2_with fail
                      go_ret
                      exact ⟨by rw [HF.out]; rfl, rfl⟩
                    · have hzz : ((k : Int) == (k2 : Int) + 1) = false := beq_eq_false_iff_ne.2 (by omega)
                      have HF : Hid (V = expB (l.drop k)) := by
                        rw [Hid, HV3.out, unhide HE]
                        rw [decide_eq_true (by omega), Bool.true_and]
                        congr 2
                        omega
                      go_wp2_with fail
                      go_meet
                      case rel => exact ⟨k, rfl, hkl, HF, rfl⟩
              · have hne : ((x2 : Int) == 46) = false := beq_eq_false_iff_ne.2 (fun e => h46 (UInt8.toNat_inj.1 (by rw [← HX2.out]; show x2 = 46; omega)))
                go_wp2_with fail
                go_meet
                case rel => exact ⟨k2, rfl, hk2, by rw [Hid, HV2'.out, if_neg h46], rfl⟩
          case rest =>
            obtain ⟨k3, rfl, hk3, HV3, rfl⟩ := hcut
            clear HV2' HX2 hx2
            by_cases hk3l : k3 < l.length
            · have hk3z : (k3 : Int) < (l.length : Int) := by omega
              obtain ⟨x3, hx3, HX3⟩ : ∃ x : Nat, w.cell? ⟨b, off + k3, none⟩ = some (.int .u8 (x : Int)) ∧ Hid (x = (l[k3]).toNat) := ⟨(l[k3]).toNat, (unhide HC) k3 hk3l, rfl⟩
              have HV4 : Hid (V = if l[k3] = 101 ∨ l[k3] = 69 then decide (0 < nd (skipSign (l.drop (k3 + 1)))) && decide (nd (skipSign (l.drop (k3 + 1))) = (skipSign (l.drop (k3 + 1))).length) else false) := by
                rw [Hid, HV3.out, drop_at l k3 hk3l]; exact expB_cons _ _
              clear HV3
              by_cases hee : l[k3] = 101 ∨ l[k3] = 69
              · have HV5 : Hid (V = (decide (0 < nd (skipSign (l.drop (k3 + 1)))) && decide (nd (skipSign (l.drop (k3 + 1))) = (skipSign (l.drop (k3 + 1))).length))) := by
                  rw [Hid, HV4.out, if_pos hee]
                clear HV4
                by_cases hj : k3 + 1 < l.length
                · have hjz : (k3 : Int) + 1 < (l.length : Int) := by omega
                  obtain ⟨y, hy, HY⟩ : ∃ x : Nat, w.cell? ⟨b, off + (k3 + 1), none⟩ = some (.int .u8 (x : Int)) ∧ Hid (x = (l[k3 + 1]).toNat) := ⟨(l[k3 + 1]).toNat, (unhide HC) (k3 + 1) hj, rfl⟩
                  have HSk : Hid (skipSign (l.drop (k3 + 1)) = if l[k3 + 1] = 43 ∨ l[k3 + 1] = 45 then l.drop (k3 + 2) else l.drop (k3 + 1)) := by
                    rw [Hid, drop_at l (k3 + 1) hj]; exact skip_cons _ _
                  by_cases h43 : l[k3 + 1] = 43
                  · obtain rfl : y = 43 := by rw [HY.out, h43]; rfl
                    rw [HSk.out, if_pos (.inl h43)] at HV5
                    clear HSk HY
                    have hS : k3 + 2 ≤ l.length := by omega
                    rcases hee with he | he
                    · obtain rfl : x3 = 101 := by rw [HX3.out, he]; rfl
                      clear HX3 he
                      as_aux_lemma =>
                        go_wp2_with fail
                        go_loopg [4] (l.length - (k3 + 2)) (fun g iv wr => ∃ k : Nat, g = l.length - k ∧ k3 + 2 ≤ k ∧ k ≤ l.length ∧ Hid (k - (k3 + 2) ≤ nd (l.drop (k3 + 2))) ∧ iv = .int .i64 (k : Nat) ∧ w = wr)
                        case atStart => exact ⟨k3 + 2, rfl, Nat.le_refl _, hS, by rw [Hid, Nat.sub_self]; exact Nat.zero_le _, by go_num, rfl⟩
                        case round =>
                          obtain ⟨k, rfl, hik, hkl, HN, rfl, rfl⟩ := hrel
                          by_cases hkn : k < l.length
                          · have hkz : (k : Int) < (l.length : Int) := by omega
                            have HCk := hide ((unhide HC) k hkn)
                            obtain ⟨xk, hcx, HXk⟩ : ∃ x : UInt8, w.cell? ⟨b, off + k, none⟩ = some (.int .u8 (x.toNat : Int)) ∧ Hid (x = l[k]) := ⟨l[k], unhide HCk, rfl⟩
                            clear HCk
                            go_wp2_with fail
                            refine (dig_is xk w).mono ?_
                            rintro e w1 ⟨rfl, rfl⟩
                            by_cases hdg : digB xk = true
                            · rw [hdg]
                              have HN2 := hide (nd_more' l (k3 + 2) k hik (unhide HN) hkn (by rw [← HXk.out]; exact hdg))
                              go_wp2_with fail
                              go_roundg (l.length - (k + 1))
                              case measure => omega
                              case rel => exact ⟨k + 1, rfl, by omega, by omega, HN2, by go_num, rfl⟩
                            · have hdg' : digB xk = false := by simpa using hdg
                              rw [hdg']
                              have HE := hide (nd_stop' l (k3 + 2) k hik (unhide HN) (fun _ => by rw [← HXk.out]; exact hdg'))
                              clear hdg hdg' HXk hcx
                              by_cases hz : k = k3 + 2
                              · first
                                | (exfalso; omega)
                                | (subst hz
                                   have HF : Hid (V = false) := by rw [Hid, HV5.out, unhide HE, Nat.sub_self]; rfl
                                   go_wp2_with fail
                                   go_ret
                                   exact ⟨by rw [HF.out]; rfl, rfl⟩)
                              · have hzz : ((k : Int) == (k3 : Int) + 2) = false := beq_eq_false_iff_ne.2 (by omega)
                                by_cases hfin : k = l.length
                                · first
                                  | (exfalso; omega)
                                  | (subst hfin
                                     have HF : Hid (V = true) := by
                                       rw [Hid, HV5.out, unhide HE, List.length_drop]
                                       rw [decide_eq_true (by omega), decide_eq_true rfl]
                                       try rfl
                                     go_wp2_with fail
                                     go_ret
                                     exact ⟨by rw [HF.out]; rfl, rfl⟩)
                                · first
                                  | (exfalso; omega)
                                  | (have hfz : ((k : Int) == (l.length : Int)) = false := beq_eq_false_iff_ne.2 (by omega)
                                     have HF : Hid (V = false) := by
                                       rw [Hid, HV5.out, unhide HE, List.length_drop]
                                       rw [decide_eq_false (show ¬ (k - (k3 + 2) = l.length - (k3 + 2)) by omega), Bool.and_false]
                                     go_wp2_with fail
                                     go_ret
                                     exact ⟨by rw [HF.out]; rfl, rfl⟩)
                          · have hkz : ¬ ((k : Int) < (l.length : Int)) := by omega
                            have HE := hide (nd_stop' l (k3 + 2) k hik (unhide HN) (fun h => absurd h hkn))
                            by_cases hz : k = k3 + 2
                            · first
                              | (exfalso; omega)
                              | (subst hz
                                 have HF : Hid (V = false) := by rw [Hid, HV5.out, unhide HE, Nat.sub_self]; rfl
                                 go_wp2_with fail
                                 go_ret
                                 exact ⟨by rw [HF.out]; rfl, rfl⟩)
                            · have hzz : ((k : Int) == (k3 : Int) + 2) = false := beq_eq_false_iff_ne.2 (by omega)
                              by_cases hfin : k = l.length
                              · first
                                | (exfalso; omega)
                                | (subst hfin
                                   have HF : Hid (V = true) := by
                                     rw [Hid, HV5.out, unhide HE, List.length_drop]
                                     rw [decide_eq_true (by omega), decide_eq_true rfl]
                                     try rfl
                                   go_wp2_with fail
                                   go_ret
                                   exact ⟨by rw [HF.out]; rfl, rfl⟩)
                              · first
                                | (exfalso; omega)
                                | (have hfz : ((k : Int) == (l.length : Int)) = false := beq_eq_false_iff_ne.2 (by omega)
                                   have HF : Hid (V = false) := by
                                     rw [Hid, HV5.out, unhide HE, List.length_drop]
                                     rw [decide_eq_false (show ¬ (k - (k3 + 2) = l.length - (k3 + 2)) by omega), Bool.and_false]
                                   go_wp2_with fail
                                   go_ret
                                   exact ⟨by rw [HF.out]; rfl, rfl⟩)
                    · obtain rfl : x3 = 69 := by rw [HX3.out, he]; rfl
                      clear HX3 he
                      as_aux_lemma =>
                        go_wp2_with fail
                        go_loopg [4] (l.length - (k3 + 2)) (fun g iv wr => ∃ k : Nat, g = l.length - k ∧ k3 + 2 ≤ k ∧ k ≤ l.length ∧ Hid (k - (k3 + 2) ≤ nd (l.drop (k3 + 2))) ∧ iv = .int .i64 (k : Nat) ∧ w = wr)
                        case atStart => exact ⟨k3 + 2, rfl, Nat.le_refl _, hS, by rw [Hid, Nat.sub_self]; exact Nat.zero_le _, by go_num, rfl⟩
                        case round =>
                          obtain ⟨k, rfl, hik, hkl, HN, rfl, rfl⟩ := hrel
                          by_cases hkn : k < l.length
                          · have hkz : (k : Int) < (l.length : Int) := by omega
                            have HCk := hide ((unhide HC) k hkn)
                            obtain ⟨xk, hcx, HXk⟩ : ∃ x : UInt8, w.cell? ⟨b, off + k, none⟩ = some (.int .u8 (x.toNat : Int)) ∧ Hid (x = l[k]) := ⟨l[k], unhide HCk, rfl⟩
                            clear HCk
                            go_wp2_with fail
                            refine (dig_is xk w).mono ?_
                            rintro e w1 ⟨rfl, rfl⟩
                            by_cases hdg : digB xk = true
                            · rw [hdg]
                              have HN2 := hide (nd_more' l (k3 + 2) k hik (unhide HN) hkn (by rw [← HXk.out]; exact hdg))
                              go_wp2_with fail
                              go_roundg (l.length - (k + 1))
                              case measure => omega
                              case rel => exact ⟨k + 1, rfl, by omega, by omega, HN2, by go_num, rfl⟩
                            · have hdg' : digB xk = false := by simpa using hdg
                              rw [hdg']
                              have HE := hide (nd_stop' l (k3 + 2) k hik (unhide HN) (fun _ => by rw [← HXk.out]; exact hdg'))
                              clear hdg hdg' HXk hcx
                              by_cases hz : k = k3 + 2
                              · first
                                | (exfalso; omega)
                                | (subst hz
                                   have HF : Hid (V = false) := by rw [Hid, HV5.out, unhide HE, Nat.sub_self]; rfl
                                   go_wp2_with fail
                                   go_ret
                                   exact ⟨by rw [HF.out]; rfl, rfl⟩)
                              · have hzz : ((k : Int) == (k3 : Int) + 2) = false := beq_eq_false_iff_ne.2 (by omega)
                                by_cases hfin : k = l.length
                                · first
                                  | (exfalso; omega)
                                  | (subst hfin
                                     have HF : Hid (V = true) := by
                                       rw [Hid, HV5.out, unhide HE, List.length_drop]
                                       rw [decide_eq_true (by omega), decide_eq_true rfl]
                                       try rfl
                                     go_wp2_with fail
                                     go_ret
                                     exact ⟨by rw [HF.out]; rfl, rfl⟩)
                                · first
                                  | (exfalso; omega)
                                  | (have hfz : ((k : Int) == (l.length : Int)) = false := beq_eq_false_iff_ne.2 (by omega)
                                     have HF : Hid (V = false) := by
                                       rw [Hid, HV5.out, unhide HE, List.length_drop]
                                       rw [decide_eq_false (show ¬ (k - (k3 + 2) = l.length - (k3 + 2)) by omega), Bool.and_false]
                                     go_wp2_with fail
                                     go_ret
                                     exact ⟨by rw [HF.out]; rfl, rfl⟩)
                          · have hkz : ¬ ((k : Int) < (l.length : Int)) := by omega
                            have HE := hide (nd_stop' l (k3 + 2) k hik (unhide HN) (fun h => absurd h hkn))
                            by_cases hz : k = k3 + 2
                            · first
                              | (exfalso; omega)
                              | (subst hz
                                 have HF : Hid (V = false) := by rw [Hid, HV5.out, unhide HE, Nat.sub_self]; rfl
                                 go_wp2_with fail
                                 go_ret
                                 exact ⟨by rw [HF.out]; rfl, rfl⟩)
                            · have hzz : ((k : Int) == (k3 : Int) + 2) = false := beq_eq_false_iff_ne.2 (by omega)
                              by_cases hfin : k = l.length
                              · first
                                | (exfalso; omega)
                                | (subst hfin
                                   have HF : Hid (V = true) := by
                                     rw [Hid, HV5.out, unhide HE, List.length_drop]
                                     rw [decide_eq_true (by omega), decide_eq_true rfl]
                                     try rfl
                                   go_wp2_with fail
                                   go_ret
                                   exact ⟨by rw [HF.out]; rfl, rfl⟩)
                              · first
                                | (exfalso; omega)
                                | (have hfz : ((k : Int) == (l.length : Int)) = false := beq_eq_false_iff_ne.2 (by omega)
                                   have HF : Hid (V = false) := by
                                     rw [Hid, HV5.out, unhide HE, List.length_drop]
                                     rw [decide_eq_false (show ¬ (k - (k3 + 2) = l.length - (k3 + 2)) by omega), Bool.and_false]
                                   go_wp2_with fail
                                   go_ret
                                   exact ⟨by rw [HF.out]; rfl, rfl⟩)
                  · have hn43 : ((y : Int) == 43) = false := beq_eq_false_iff_ne.2 (fun e => h43 (UInt8.toNat_inj.1 (by rw [← HY.out]; show y = 43; omega)))
                    by_cases h45 : l[k3 + 1] = 45
                    · obtain rfl : y = 45 := by rw [HY.out, h45]; rfl
                      rw [HSk.out, if_pos (.inr h45)] at HV5
                      clear HSk HY
                      have hS : k3 + 2 ≤ l.length := by omega
                      rcases hee with he | he
                      · obtain rfl : x3 = 101 := by rw [HX3.out, he]; rfl
                        clear HX3 he
                        as_aux_lemma =>
                          go_wp2_with fail
                          go_loopg [4] (l.length - (k3 + 2)) (fun g iv wr => ∃ k : Nat, g = l.length - k ∧ k3 + 2 ≤ k ∧ k ≤ l.length ∧ Hid (k - (k3 + 2) ≤ nd (l.drop (k3 + 2))) ∧ iv = .int .i64 (k : Nat) ∧ w = wr)
                          case atStart => exact ⟨k3 + 2, rfl, Nat.le_refl _, hS, by rw [Hid, Nat.sub_self]; exact Nat.zero_le _, by go_num, rfl⟩
                          case round =>
                            obtain ⟨k, rfl, hik, hkl, HN, rfl, rfl⟩ := hrel
                            by_cases hkn : k < l.length
                            · have hkz : (k : Int) < (l.length : Int) := by omega
                              have HCk := hide ((unhide HC) k hkn)
                              obtain ⟨xk, hcx, HXk⟩ : ∃ x : UInt8, w.cell? ⟨b, off + k, none⟩ = some (.int .u8 (x.toNat : Int)) ∧ Hid (x = l[k]) := ⟨l[k], unhide HCk, rfl⟩
                              clear HCk
                              go_wp2_with fail
                              refine (dig_is xk w).mono ?_
                              rintro e w1 ⟨rfl, rfl⟩
                              by_cases hdg : digB xk = true
                              · rw [hdg]
                                have HN2 := hide (nd_more' l (k3 + 2) k hik (unhide HN) hkn (by rw [← HXk.out]; exact hdg))
                                go_wp2_with fail
                                go_roundg (l.length - (k + 1))
                                case measure => omega
                                case rel => exact ⟨k + 1, rfl, by omega, by omega, HN2, by go_num, rfl⟩
                              · have hdg' : digB xk = false := by simpa using hdg
                                rw [hdg']
                                have HE := hide (nd_stop' l (k3 + 2) k hik (unhide HN) (fun _ => by rw [← HXk.out]; exact hdg'))
                                clear hdg hdg' HXk hcx
                                by_cases hz : k = k3 + 2
                                · first
                                  | (exfalso; omega)
                                  | (subst hz
                                     have HF : Hid (V = false) := by rw [Hid, HV5.out, unhide HE, Nat.sub_self]; rfl
                                     go_wp2_with fail
                                     go_ret
                                     exact ⟨by rw [HF.out]; rfl, rfl⟩)
                                · have hzz : ((k : Int) == (k3 : Int) + 2) = false := beq_eq_false_iff_ne.2 (by omega)
                                  by_cases hfin : k = l.length
                                  · first
                                    | (exfalso; omega)
                                    | (subst hfin
                                       have HF : Hid (V = true) := by
                                         rw [Hid, HV5.out, unhide HE, List.length_drop]
                                         rw [decide_eq_true (by omega), decide_eq_true rfl]
                                         try rfl
                                       go_wp2_with fail
                                       go_ret
                                       exact ⟨by rw [HF.out]; rfl, rfl⟩)
                                  · first
                                    | (exfalso; omega)
                                    | (have hfz : ((k : Int) == (l.length : Int)) = false := beq_eq_false_iff_ne.2 (by omega)
                                       have HF : Hid (V = false) := by
                                         rw [Hid, HV5.out, unhide HE, List.length_drop]
                                         rw [decide_eq_false (show ¬ (k - (k3 + 2) = l.length - (k3 + 2)) by omega), Bool.and_false]
                                       go_wp2_with fail
                                       go_ret
                                       exact ⟨by rw [HF.out]; rfl, rfl⟩)
                            · have hkz : ¬ ((k : Int) < (l.length : Int)) := by omega
                              have HE := hide (nd_stop' l (k3 + 2) k hik (unhide HN) (fun h => absurd h hkn))
                              by_cases hz : k = k3 + 2
                              · first
                                | (exfalso; omega)
                                | (subst hz
                                   have HF : Hid (V = false) := by rw [Hid, HV5.out, unhide HE, Nat.sub_self]; rfl
                                   go_wp2_with fail
                                   go_ret
                                   exact ⟨by rw [HF.out]; rfl, rfl⟩)
                              · have hzz : ((k : Int) == (k3 : Int) + 2) = false := beq_eq_false_iff_ne.2 (by omega)
                                by_cases hfin : k = l.length
                                · first
                                  | (exfalso; omega)
                                  | (subst hfin
                                     have HF : Hid (V = true) := by
                                       rw [Hid, HV5.out, unhide HE, List.length_drop]
                                       rw [decide_eq_true (by omega), decide_eq_true rfl]
                                       try rfl
                                     go_wp2_with fail
                                     go_ret
                                     exact ⟨by rw [HF.out]; rfl, rfl⟩)
                                · first
                                  | (exfalso; omega)
                                  | (have hfz : ((k : Int) == (l.length : Int)) = false := beq_eq_false_iff_ne.2 (by omega)
                                     have HF : Hid (V = false) := by
                                       rw [Hid, HV5.out, unhide HE, List.length_drop]
                                       rw [decide_eq_false (show ¬ (k - (k3 + 2) = l.length - (k3 + 2)) by omega), Bool.and_false]
                                     go_wp2_with fail
                                     go_ret
                                     exact ⟨by rw [HF.out]; rfl, rfl⟩)
                      · obtain rfl : x3 = 69 := by rw [HX3.out, he]; rfl
                        clear HX3 he
                        as_aux_lemma =>
                          go_wp2_with fail
                          go_loopg [4] (l.length - (k3 + 2)) (fun g iv wr => ∃ k : Nat, g = l.length - k ∧ k3 + 2 ≤ k ∧ k ≤ l.length ∧ Hid (k - (k3 + 2) ≤ nd (l.drop (k3 + 2))) ∧ iv = .int .i64 (k : Nat) ∧ w = wr)
                          case atStart => exact ⟨k3 + 2, rfl, Nat.le_refl _, hS, by rw [Hid, Nat.sub_self]; exact Nat.zero_le _, by go_num, rfl⟩
                          case round =>
                            obtain ⟨k, rfl, hik, hkl, HN, rfl, rfl⟩ := hrel
                            by_cases hkn : k < l.length
                            · have hkz : (k : Int) < (l.length : Int) := by omega
                              have HCk := hide ((unhide HC) k hkn)
                              obtain ⟨xk, hcx, HXk⟩ : ∃ x : UInt8, w.cell? ⟨b, off + k, none⟩ = some (.int .u8 (x.toNat : Int)) ∧ Hid (x = l[k]) := ⟨l[k], unhide HCk, rfl⟩
                              clear HCk
                              go_wp2_with fail
                              refine (dig_is xk w).mono ?_
                              rintro e w1 ⟨rfl, rfl⟩
                              by_cases hdg : digB xk = true
                              · rw [hdg]
                                have HN2 := hide (nd_more' l (k3 + 2) k hik (unhide HN) hkn (by rw [← HXk.out]; exact hdg))
                                go_wp2_with fail
                                go_roundg (l.length - (k + 1))
                                case measure => omega
                                case rel => exact ⟨k + 1, rfl, by omega, by omega, HN2, by go_num, rfl⟩
                              · have hdg' : digB xk = false := by simpa using hdg
                                rw [hdg']
                                have HE := hide (nd_stop' l (k3 + 2) k hik (unhide HN) (fun _ => by rw [← HXk.out]; exact hdg'))
                                clear hdg hdg' HXk hcx
                                by_cases hz : k = k3 + 2
                                · first
                                  | (exfalso; omega)
                                  | (subst hz
                                     have HF : Hid (V = false) := by rw [Hid, HV5.out, unhide HE, Nat.sub_self]; rfl
                                     go_wp2_with fail
                                     go_ret
                                     exact ⟨by rw [HF.out]; rfl, rfl⟩)
                                · have hzz : ((k : Int) == (k3 : Int) + 2) = false := beq_eq_false_iff_ne.2 (by omega)
                                  by_cases hfin : k = l.length
                                  · first
                                    | (exfalso; omega)
                                    | (subst hfin
                                       have HF : Hid (V = true) := by
                                         rw [Hid, HV5.out, unhide HE, List.length_drop]
                                         rw [decide_eq_true (by omega), decide_eq_true rfl]
                                         try rfl
                                       go_wp2_with fail
                                       go_ret
                                       exact ⟨by rw [HF.out]; rfl, rfl⟩)
                                  · first
                                    | (exfalso; omega)
                                    | (have hfz : ((k : Int) == (l.length : Int)) = false := beq_eq_false_iff_ne.2 (by omega)
                                       have HF : Hid (V = false) := by
                                         rw [Hid, HV5.out, unhide HE, List.length_drop]
                                         rw [decide_eq_false (show ¬ (k - (k3 + 2) = l.length - (k3 + 2)) by omega), Bool.and_false]
                                       go_wp2_with fail
                                       go_ret
                                       exact ⟨by rw [HF.out]; rfl, rfl⟩)
                            · have hkz : ¬ ((k : Int) < (l.length : Int)) := by omega
                              have HE := hide (nd_stop' l (k3 + 2) k hik (unhide HN) (fun h => absurd h hkn))
                              by_cases hz : k = k3 + 2
                              · first
                                | (exfalso; omega)
                                | (subst hz
                                   have HF : Hid (V = false) := by rw [Hid, HV5.out, unhide HE, Nat.sub_self]; rfl
                                   go_wp2_with fail
                                   go_ret
                                   exact ⟨by rw [HF.out]; rfl, rfl⟩)
                              · have hzz : ((k : Int) == (k3 : Int) + 2) = false := beq_eq_false_iff_ne.2 (by omega)
                                by_cases hfin : k = l.length
                                · first
                                  | (exfalso; omega)
                                  | (subst hfin
                                     have HF : Hid (V = true) := by
                                       rw [Hid, HV5.out, unhide HE, List.length_drop]
                                       rw [decide_eq_true (by omega), decide_eq_true rfl]
                                       try rfl
                                     go_wp2_with fail
                                     go_ret
                                     exact ⟨by rw [HF.out]; rfl, rfl⟩)
                                · first
                                  | (exfalso; omega)
                                  | (have hfz : ((k : Int) == (l.length : Int)) = false := beq_eq_false_iff_ne.2 (by omega)
                                     have HF : Hid (V = false) := by
                                       rw [Hid, HV5.out, unhide HE, List.length_drop]
                                       rw [decide_eq_false (show ¬ (k - (k3 + 2) = l.length - (k3 + 2)) by omega), Bool.and_false]
                                     go_wp2_with fail
                                     go_ret
                                     exact ⟨by rw [HF.out]; rfl, rfl⟩)
                    · have hn45 : ((y : Int) == 45) = false := beq_eq_false_iff_ne.2 (fun e => h45 (UInt8.toNat_inj.1 (by rw [← HY.out]; show y = 45; omega)))
                      rw [HSk.out, if_neg (fun h => h.elim h43 h45)] at HV5
                      clear HSk HY
                      have hS : k3 + 1 ≤ l.length := by omega
                      rcases hee with he | he
                      · obtain rfl : x3 = 101 := by rw [HX3.out, he]; rfl
                        clear HX3 he
                        as_aux_lemma =>
                          go_wp2_with fail
                          go_loopg [4] (l.length - (k3 + 1)) (fun g iv wr => ∃ k : Nat, g = l.length - k ∧ k3 + 1 ≤ k ∧ k ≤ l.length ∧ Hid (k - (k3 + 1) ≤ nd (l.drop (k3 + 1))) ∧ iv = .int .i64 (k : Nat) ∧ w = wr)
                          case atStart => exact ⟨k3 + 1, rfl, Nat.le_refl _, hS, by rw [Hid, Nat.sub_self]; exact Nat.zero_le _, by go_num, rfl⟩
                          case round =>
                            obtain ⟨k, rfl, hik, hkl, HN, rfl, rfl⟩ := hrel
                            by_cases hkn : k < l.length
                            · have hkz : (k : Int) < (l.length : Int) := by omega
                              have HCk := hide ((unhide HC) k hkn)
                              obtain ⟨xk, hcx, HXk⟩ : ∃ x : UInt8, w.cell? ⟨b, off + k, none⟩ = some (.int .u8 (x.toNat : Int)) ∧ Hid (x = l[k]) := ⟨l[k], unhide HCk, rfl⟩
                              clear HCk
                              go_wp2_with fail
                              refine (dig_is xk w).mono ?_
                              rintro e w1 ⟨rfl, rfl⟩
                              by_cases hdg : digB xk = true
                              · rw [hdg]
                                have HN2 := hide (nd_more' l (k3 + 1) k hik (unhide HN) hkn (by rw [← HXk.out]; exact hdg))
                                go_wp2_with fail
                                go_roundg (l.length - (k + 1))
                                case measure => omega
                                case rel => exact ⟨k + 1, rfl, by omega, by omega, HN2, by go_num, rfl⟩
                              · have hdg' : digB xk = false := by simpa using hdg
                                rw [hdg']
                                have HE := hide (nd_stop' l (k3 + 1) k hik (unhide HN) (fun _ => by rw [← HXk.out]; exact hdg'))
                                clear hdg hdg' HXk hcx
                                by_cases hz : k = k3 + 1
                                · first
                                  | (exfalso; omega)
                                  | (subst hz
                                     have HF : Hid (V = false) := by rw [Hid, HV5.out, unhide HE, Nat.sub_self]; rfl
                                     go_wp2_with fail
                                     go_ret
                                     exact ⟨by rw [HF.out]; rfl, rfl⟩)
                                · have hzz : ((k : Int) == (k3 : Int) + 1) = false := beq_eq_false_iff_ne.2 (by omega)
                                  by_cases hfin : k = l.length
                                  · first
                                    | (exfalso; omega)
                                    | (subst hfin
                                       have HF : Hid (V = true) := by
                                         rw [Hid, HV5.out, unhide HE, List.length_drop]
                                         rw [decide_eq_true (by omega), decide_eq_true rfl]
                                         try rfl
                                       go_wp2_with fail
                                       go_ret
                                       exact ⟨by rw [HF.out]; rfl, rfl⟩)
                                  · first
                                    | (exfalso; omega)
                                    | (have hfz : ((k : Int) == (l.length : Int)) = false := beq_eq_false_iff_ne.2 (by omega)
                                       have HF : Hid (V = false) := by
                                         rw [Hid, HV5.out, unhide HE, List.length_drop]
                                         rw [decide_eq_false (show ¬ (k - (k3 + 1) = l.length - (k3 + 1)) by omega), Bool.and_false]
                                       go_wp2_with fail
                                       go_ret
                                       exact ⟨by rw [HF.out]; rfl, rfl⟩)
                            · have hkz : ¬ ((k : Int) < (l.length : Int)) := by omega
                              have HE := hide (nd_stop' l (k3 + 1) k hik (unhide HN) (fun h => absurd h hkn))
                              by_cases hz : k = k3 + 1
                              · first
                                | (exfalso; omega)
                                | (subst hz
                                   have HF : Hid (V = false) := by rw [Hid, HV5.out, unhide HE, Nat.sub_self]; rfl
                                   go_wp2_with fail
                                   go_ret
                                   exact ⟨by rw [HF.out]; rfl, rfl⟩)
                              · have hzz : ((k : Int) == (k3 : Int) + 1) = false := beq_eq_false_iff_ne.2 (by omega)
                                by_cases hfin : k = l.length
                                · first
                                  | (exfalso; omega)
                                  | (subst hfin
                                     have HF : Hid (V = true) := by
                                       rw [Hid, HV5.out, unhide HE, List.length_drop]
                                       rw [decide_eq_true (by omega), decide_eq_true rfl]
                                       try rfl
                                     go_wp2_with fail
                                     go_ret
                                     exact ⟨by rw [HF.out]; rfl, rfl⟩)
                                · first
                                  | (exfalso; omega)
                                  | (have hfz : ((k : Int) == (l.length : Int)) = false := beq_eq_false_iff_ne.2 (by omega)
                                     have HF : Hid (V = false) := by
                                       rw [Hid, HV5.out, unhide HE, List.length_drop]
                                       rw [decide_eq_false (show ¬ (k - (k3 + 1) = l.length - (k3 + 1)) by omega), Bool.and_false]
                                     go_wp2_with fail
                                     go_ret
                                     exact ⟨by rw [HF.out]; rfl, rfl⟩)
                      · obtain rfl : x3 = 69 := by rw [HX3.out, he]; rfl
                        clear HX3 he
                        as_aux_lemma =>
                          go_wp2_with fail
                          go_loopg [4] (l.length - (k3 + 1)) (fun g iv wr => ∃ k : Nat, g = l.length - k ∧ k3 + 1 ≤ k ∧ k ≤ l.length ∧ Hid (k - (k3 + 1) ≤ nd (l.drop (k3 + 1))) ∧ iv = .int .i64 (k : Nat) ∧ w = wr)
                          case atStart => exact ⟨k3 + 1, rfl, Nat.le_refl _, hS, by rw [Hid, Nat.sub_self]; exact Nat.zero_le _, by go_num, rfl⟩
                          case round =>
                            obtain ⟨k, rfl, hik, hkl, HN, rfl, rfl⟩ := hrel
                            by_cases hkn : k < l.length
                            · have hkz : (k : Int) < (l.length : Int) := by omega
                              have HCk := hide ((unhide HC) k hkn)
                              obtain ⟨xk, hcx, HXk⟩ : ∃ x : UInt8, w.cell? ⟨b, off + k, none⟩ = some (.int .u8 (x.toNat : Int)) ∧ Hid (x = l[k]) := ⟨l[k], unhide HCk, rfl⟩
                              clear HCk
                              go_wp2_with fail
                              refine (dig_is xk w).mono ?_
                              rintro e w1 ⟨rfl, rfl⟩
                              by_cases hdg : digB xk = true
                              · rw [hdg]
                                have HN2 := hide (nd_more' l (k3 + 1) k hik (unhide HN) hkn (by rw [← HXk.out]; exact hdg))
                                go_wp2_with fail
                                go_roundg (l.length - (k + 1))
                                case measure => omega
                                case rel => exact ⟨k + 1, rfl, by omega, by omega, HN2, by go_num, rfl⟩
                              · have hdg' : digB xk = false := by simpa using hdg
                                rw [hdg']
                                have HE := hide (nd_stop' l (k3 + 1) k hik (unhide HN) (fun _ => by rw [← HXk.out]; exact hdg'))
                                clear hdg hdg' HXk hcx
                                by_cases hz : k = k3 + 1
                                · first
                                  | (exfalso; omega)
                                  | (subst hz
                                     have HF : Hid (V = false) := by rw [Hid, HV5.out, unhide HE, Nat.sub_self]; rfl
                                     go_wp2_with fail
                                     go_ret
                                     exact ⟨by rw [HF.out]; rfl, rfl⟩)
                                · have hzz : ((k : Int) == (k3 : Int) + 1) = false := beq_eq_false_iff_ne.2 (by omega)
                                  by_cases hfin : k = l.length
                                  · first
                                    | (exfalso; omega)
                                    | (subst hfin
                                       have HF : Hid (V = true) := by
                                         rw [Hid, HV5.out, unhide HE, List.length_drop]
                                         rw [decide_eq_true (by omega), decide_eq_true rfl]
                                         try rfl
                                       go_wp2_with fail
                                       go_ret
                                       exact ⟨by rw [HF.out]; rfl, rfl⟩)
                                  · first
                                    | (exfalso; omega)
                                    | (have hfz : ((k : Int) == (l.length : Int)) = false := beq_eq_false_iff_ne.2 (by omega)
                                       have HF : Hid (V = false) := by
                                         rw [Hid, HV5.out, unhide HE, List.length_drop]
                                         rw [decide_eq_false (show ¬ (k - (k3 + 1) = l.length - (k3 + 1)) by omega), Bool.and_false]
                                       go_wp2_with fail
                                       go_ret
                                       exact ⟨by rw [HF.out]; rfl, rfl⟩)
                            · have hkz : ¬ ((k : Int) < (l.length : Int)) := by omega
                              have HE := hide (nd_stop' l (k3 + 1) k hik (unhide HN) (fun h => absurd h hkn))
                              by_cases hz : k = k3 + 1
                              · first
                                | (exfalso; omega)
                                | (subst hz
                                   have HF : Hid (V = false) := by rw [Hid, HV5.out, unhide HE, Nat.sub_self]; rfl
                                   go_wp2_with fail
                                   go_ret
                                   exact ⟨by rw [HF.out]; rfl, rfl⟩)
                              · have hzz : ((k : Int) == (k3 : Int) + 1) = false := beq_eq_false_iff_ne.2 (by omega)
                                by_cases hfin : k = l.length
                                · first
                                  | (exfalso; omega)
                                  | (subst hfin
                                     have HF : Hid (V = true) := by
                                       rw [Hid, HV5.out, unhide HE, List.length_drop]
                                       rw [decide_eq_true (by omega), decide_eq_true rfl]
                                       try rfl
                                     go_wp2_with fail
                                     go_ret
                                     exact ⟨by rw [HF.out]; rfl, rfl⟩)
                                · first
                                  | (exfalso; omega)
                                  | (have hfz : ((k : Int) == (l.length : Int)) = false := beq_eq_false_iff_ne.2 (by omega)
                                     have HF : Hid (V = false) := by
                                       rw [Hid, HV5.out, unhide HE, List.length_drop]
                                       rw [decide_eq_false (show ¬ (k - (k3 + 1) = l.length - (k3 + 1)) by omega), Bool.and_false]
                                     go_wp2_with fail
                                     go_ret
                                     exact ⟨by rw [HF.out]; rfl, rfl⟩)
                · have hj' : k3 + 1 = l.length := by omega
                  have hjz : ¬ ((k3 : Int) + 1 < (l.length : Int)) := by omega
                  have HF : Hid (V = false) := by
                    rw [Hid, HV5.out, List.drop_of_length_le (by omega)]; rfl
                  clear HV5
                  rcases hee with he | he
                  · obtain rfl : x3 = 101 := by rw [HX3.out, he]; rfl
                    as_aux_lemma =>
                      go_wp2_with fail
                      refine wp_loop_rounds 1 ?_
                      rw [rounds_succ]
                      go_wp2_with fail
                      go_ret
                      exact ⟨by rw [HF.out]; rfl, rfl⟩
                  · obtain rfl : x3 = 69 := by rw [HX3.out, he]; rfl
                    as_aux_lemma =>
                      go_wp2_with fail
                      refine wp_loop_rounds 1 ?_
                      rw [rounds_succ]
                      go_wp2_with fail
                      go_ret
                      exact ⟨by rw [HF.out]; rfl, rfl⟩
              · have HF : Hid (V = false) := by rw [Hid, HV4.out, if_neg hee]
                have hn1 : ((x3 : Int) == 101) = false := beq_eq_false_iff_ne.2 (fun e => hee (.inl (UInt8.toNat_inj.1 (by rw [← HX3.out]; show x3 = 101; omega))))
                have hn2 : ((x3 : Int) == 69) = false := beq_eq_false_iff_ne.2 (fun e => hee (.inr (UInt8.toNat_inj.1 (by rw [← HX3.out]; show x3 = 69; omega))))
                have hn3 : ((k3 : Int) == (l.length : Int)) = false := beq_eq_false_iff_ne.2 (by omega)
                clear hee
                as_aux_lemma =>
                  go_wp2_with fail
                  go_ret
                  exact ⟨by rw [HF.out]; rfl, rfl⟩
            · obtain rfl : k3 = l.length := by omega
              have HF : Hid (V = true) := by rw [Hid, HV3.out, List.drop_length]; rfl
              clear HV3 hk3l hk3
              as_aux_lemma =>
                go_wp2_with fail
                go_ret
                exact ⟨by rw [HF.out]; rfl, rfl⟩
        · obtain rfl : k2 = l.length := by omega
          have HF : Hid (V = true) := by rw [Hid, HV2.out, List.drop_length]; rfl
          clear HV2 hk2l hk2
          as_aux_lemma =>
            go_wp2_with fail
            go_ret
            exact ⟨by rw [HF.out]; rfl, rfl⟩
    · obtain rfl : k1 = l.length := by omega
      have HF : Hid (V = false) := by rw [Hid, HV1.out, List.drop_length]; rfl
      clear HV1 hk1l hk1
      as_aux_lemma =>
        go_wp2_with fail
        go_ret
        exact ⟨by rw [HF.out]; rfl, rfl⟩

theorem valid_any (p : Option Addr) (c : Nat) (l : List UInt8) (hl : l.length ≤ 1073741824) (w : World) (hA : At w p l) :
    Calls Tryd.prog 7 #[.slice p l.length c] w fun e w' => e = .returned (.bool (validB l)) ∧ w = w' := by
  by_cases h0 : 0 < l.length
  · obtain ⟨b, off, rfl, hc⟩ := hA h0
    exact valid_row b off c l h0 hl w hc
  · obtain rfl : l = [] := List.eq_nil_of_length_eq_zero (by omega)
    exact valid_none p c w
end Go.Proofs.Qxb6606399aDoor
