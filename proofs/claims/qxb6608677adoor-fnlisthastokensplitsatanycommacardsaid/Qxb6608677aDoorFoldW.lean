import Derived.Test.Qxb6608677aDoorBase
import Derived.Test.Qxb6608677aDoorShelf
import Derived.Test.Qxb6608677aDoorFoldQ
import Derived.Shelf.Unicode.CaseLaid
namespace Go.Proofs.Qxb6608677aDoor
open Go.RowKit Go.Lib

/-- The library's tables, as the call finds them. -/
structure FoldTabs (w : World) : Prop where
  asc : ∀ i, i < 128 → w.cell? ⟨3, i, none⟩ = some (.int .u16 ((ascA.getD i 0 : Nat) : Int))
  orb : ∃ R o cap, w.cell? ⟨4, 0, none⟩ = some (.slice (some ⟨R, o, none⟩) 94 cap) ∧ ∀ i, i < 94 → w.cell? ⟨R, o + i * 2, none⟩ = some (.int .u16 ((orbA.getD i (0, 0)).1 : Int)) ∧ w.cell? ⟨R, o + i * 2 + 1, none⟩ = some (.int .u16 ((orbA.getD i (0, 0)).2 : Int))
  rng : CaseVar 5 caseA w
  utf : Utf8Tabs 6 7 w
theorem orb_small : (List.range 94).all (fun i => (orbA.getD i (0, 0)).1 < 65536 && (orbA.getD i (0, 0)).2 < 65536) = true := by decide +kernel
theorem orb_lt (i : Nat) (h : i < 94) : (orbA.getD i (0, 0)).1 < 65536 ∧ (orbA.getD i (0, 0)).2 < 65536 := by
  have := List.all_eq_true.1 orb_small i (by simpa using h)
  simpa using this
theorem asc_small : (List.range 128).all (fun i => ascA.getD i 0 < 65536) = true := by decide +kernel
theorem asc_lt (i : Nat) (h : i < 128) : ascA.getD i 0 < 65536 := by
  have := List.all_eq_true.1 asc_small i (by simpa using h)
  simpa using this

set_option maxHeartbeats 4000000 in
set_option maxRecDepth 100000 in
theorem fold_call (r : Int) (w : World) (hT : FoldTabs w) : Calls Tryd.prog 45 #[.int .i32 r] w fun e w' => e = .returned (.int .i32 (sfW r)) ∧ ∃ q, w' = w.drewN q := by
  by_cases h1 : r < 0
  · have HS : Hid (sfW r = r) := by unfold sfW; rw [Hid, if_pos (Or.inl h1)]
    clear hT
    go_enter Tryd.func45, Tryd.ntmps45
    go_wp2
    go_ret
    exact ⟨by rw [HS.out]; rfl, 0, rfl⟩
  by_cases h2 : 1114111 < r
  · have HS : Hid (sfW r = r) := by unfold sfW; rw [Hid, if_pos (Or.inr h2)]
    clear hT
    go_enter Tryd.func45, Tryd.ntmps45
    go_wp2
    go_ret
    exact ⟨by rw [HS.out]; rfl, 0, rfl⟩
  by_cases h3 : r < 128
  · obtain ⟨i, rfl⟩ : ∃ i : Nat, r = i := ⟨r.toNat, by omega⟩
    have hi : i < 128 := by omega
    obtain ⟨v, hv, hc⟩ : ∃ v : Nat, Hid (v = ascA.getD i 0) ∧ w.cell? ⟨3, i, none⟩ = some (.int .u16 (v : Int)) := ⟨_, rfl, hT.asc i hi⟩
    have hvl : v < 65536 := by rw [hv.out]; exact asc_lt i hi
    have HS : Hid (sfW (i : Int) = (v : Int)) := by
      unfold sfW
      rw [Hid, if_neg (by omega), if_pos h3, hv.out]
      rfl
    clear hT
    go_enter Tryd.func45, Tryd.ntmps45
    go_wp2
    go_ret
    exact ⟨by rw [HS.out]; rfl, 0, rfl⟩
  obtain ⟨R, o, cap, hv, hc⟩ := hT.orb
  obtain ⟨R5, o5, cap5, hv5, hc5⟩ := hT.rng
  have HCL := hide (Tryd.unicode_lookupCaseRange caseA R5 o5 cap5 r w hc5 caseA_ok2.ok (by decide +kernel))
  obtain ⟨ANS, hA⟩ : ∃ ANS, Hid (ANS = orbSearch r 95 0 94) := ⟨_, rfl⟩
  have HC := hide hc
  have HC5 := hide hc5
  clear hc hc5 hT
  go_enter Tryd.func45, Tryd.ntmps45
  go_wp2_with fail
  go_loopg [3, 4, 5] 95 (fun g s3 s4 _s5 wx => w = wx ∧ ∃ lo hi : Nat, s3 = .int .i64 lo ∧ s4 = .int .i64 hi ∧ lo ≤ hi ∧ hi ≤ 94 ∧ hi - lo < g ∧ Hid (orbSearch r g lo hi = ANS))
  case atStart => exact ⟨rfl, 0, 94, rfl, rfl, Nat.zero_le _, Nat.le_refl _, by omega, hA.out.symm⟩
  case round =>
    obtain ⟨rfl, lo, hi, rfl, rfl, hlh, hhn, hg, HL⟩ := hrel
    by_cases hlt : lo < hi
    · obtain ⟨g', rfl⟩ : ∃ g', gk = g' + 1 := ⟨gk - 1, by omega⟩
      have hz : (lo : Int) < (hi : Int) := by omega
      obtain ⟨m, hm⟩ : ∃ m, Hid (m = (lo + hi) / 2) := ⟨_, rfl⟩
      have hmr : lo ≤ m ∧ m < hi := by rw [hm.out]; omega
      have hmz : ((lo : Int) + (hi : Int)) / 2 = (m : Int) := by rw [hm.out]; omega
      have hl := HL.out
      simp only [orbSearch, hlt, if_true, ← hm.out] at hl
      obtain ⟨F, hF, hcF⟩ : ∃ F : Nat, Hid (F = (orbA.getD m (0, 0)).1) ∧ w.cell? ⟨R, o + m * 2, none⟩ = some (.int .u16 (F : Int)) := ⟨_, rfl, ((unhide HC) m (by omega)).1⟩
      have hFl : F < 65536 := by rw [hF.out]; exact (orb_lt m (by omega)).1
      rw [← hF.out] at hl
      by_cases hb : (F : Int) < r
      · rw [if_pos hb] at hl
        have HN := hide hl
        clear hl HL
        go_wp2_with fail
        go_roundg g'
        case measure => omega
        case rel => exact ⟨rfl, m + 1, hi, by go_num, rfl, by omega, by omega, by omega, HN⟩
      · rw [if_neg hb] at hl
        have HN := hide hl
        clear hl HL
        go_wp2_with fail
        go_roundg g'
        case measure => omega
        case rel => exact ⟨rfl, lo, m, rfl, rfl, by omega, by omega, by omega, HN⟩
    · have hz : ¬ ((lo : Int) < (hi : Int)) := by omega
      have hAe : ANS = lo := by
        have := HL.out
        obtain ⟨g', rfl⟩ : ∃ g', gk = g' + 1 := ⟨gk - 1, by omega⟩
        simp only [orbSearch, hlt, if_false] at this
        exact this.symm
      have HAe := hide hAe
      clear hAe HL
      have HSF : Hid (¬ (lo < 94 ∧ ((orbA.getD lo (0, 0)).1 : Int) = r) → sfW r = match lookupIdx caseA r (caseA.size + 1) 0 caseA.size with | some i => rc (caseA.getD i (0, 0, 0, 0, 0)) r | none => r) := fun hn => by
        unfold sfW
        rw [if_neg (by omega), if_neg (by omega), ← hA.out, unhide HAe, if_neg hn]
        rfl
      have HSF2 : Hid ((lo < 94 ∧ ((orbA.getD lo (0, 0)).1 : Int) = r) → sfW r = ((orbA.getD lo (0, 0)).2 : Int)) := fun hn => by
        unfold sfW
        rw [if_neg (by omega), if_neg (by omega), ← hA.out, unhide HAe, if_pos hn]
      obtain ⟨FB, hFB⟩ : ∃ FB, Hid (FB = decide (lo < 94 ∧ ((orbA.getD lo (0, 0)).1 : Int) = r)) := ⟨_, rfl⟩
      go_upto_region 12 with fail
      go_cut [57] (fun cv wx => cv = .bool FB ∧ w = wx)
      case first =>
        as_aux_lemma =>
          by_cases hlo : lo < 94
          · have hloz : (lo : Int) < 94 := by omega
            obtain ⟨F, hF, hcF⟩ : ∃ F : Nat, Hid (F = (orbA.getD lo (0, 0)).1) ∧ w.cell? ⟨R, o + lo * 2, none⟩ = some (.int .u16 (F : Int)) := ⟨_, rfl, ((unhide HC) lo hlo).1⟩
            have hFl : F < 65536 := by rw [hF.out]; exact (orb_lt lo hlo).1
            rw [← hF.out] at hFB
            by_cases hf : (F : Int) = r
            · have e : FB = true := by rw [hFB.out]; exact decide_eq_true ⟨hlo, hf⟩
              have hfb : ((F : Int) == r) = true := beq_iff_eq.2 hf
              subst e
              clear hf
              go_wp2_with fail
              go_meet
              case rel => exact ⟨rfl, rfl⟩
            · have e : FB = false := by rw [hFB.out]; exact decide_eq_false (fun h => hf h.2)
              have hfb : ((F : Int) == r) = false := beq_eq_false_iff_ne.2 hf
              subst e
              clear hf
              go_wp2_with fail
              go_meet
              case rel => exact ⟨rfl, rfl⟩
          · have hloz : ¬ ((lo : Int) < 94) := by omega
            have e : FB = false := by rw [hFB.out]; exact decide_eq_false (fun h => hlo h.1)
            subst e
            go_wp2_with fail
            go_meet
            case rel => exact ⟨rfl, rfl⟩
      case rest =>
      obtain ⟨rfl, rfl⟩ := hcut
      by_cases hfound : lo < 94 ∧ ((orbA.getD lo (0, 0)).1 : Int) = r
      · have e : FB = true := by rw [hFB.out]; exact decide_eq_true hfound
        have hlo := hfound.1
        have hloz : (lo : Int) < 94 := by omega
        have HS := hide ((unhide HSF2) hfound)
        obtain ⟨F, hF, hcF⟩ : ∃ F : Nat, Hid (F = (orbA.getD lo (0, 0)).2) ∧ w.cell? ⟨R, o + lo * 2 + 1, none⟩ = some (.int .u16 (F : Int)) := ⟨_, rfl, ((unhide HC) lo hlo).2⟩
        have hFl : F < 65536 := by rw [hF.out]; exact (orb_lt lo hlo).2
        rw [← hF.out] at HS
        subst e
        clear hfound
        go_wp2_with fail
        go_ret
        exact ⟨by rw [unhide HS]; rfl, 0, rfl⟩
      · have e : FB = false := by rw [hFB.out]; exact decide_eq_false hfound
        have HS := hide ((unhide HSF) hfound)
        subst e
        clear hfound HSF HSF2
        cases hi : lookupIdx caseA r (caseA.size + 1) 0 caseA.size with
        | none =>
          rw [hi] at HCL HS
          clear hi
          go_wp2_with fail
          refine (unhide HCL).mono ?_
          rintro e w1 ⟨rfl, rfl⟩
          go_wp2_with fail
          go_ret
          exact ⟨by rw [unhide HS]; rfl, 0, rfl⟩
        | some i =>
          rw [hi] at HCL HS
          obtain ⟨hil, hlo5, hhi5⟩ := lookupIdx_some caseA r _ _ _ i hi
          obtain ⟨x, hx⟩ : ∃ x, Hid (x = caseA.getD i (0, 0, 0, 0, 0)) := ⟨_, rfl⟩
          have C1 : ∀ q, Hid (Calls Tryd.prog 49 #[.int .i64 1, .int .i32 r, .pointer (some ⟨R5, o5 + i * 5, none⟩)] (w.drewN q) fun e w' => e = .returned (.int .i32 (wrap32 (convertR 1 r x))) ∧ ∃ q', w' = (w.drewN q).drewN q') := fun q => by
            rw [hx.out]
            exact Tryd.unicode_convertCase 1 (by omega) r R5 (o5 + i * 5) (caseA.getD i (0, 0, 0, 0, 0)) (w.drewN q) hlo5 hhi5 (caseA_ok2 i hil).2 ((unhide HC5) i hil).1 ((unhide HC5).delta i hil 1 (by omega))
          have C0 : ∀ q, Hid (Calls Tryd.prog 49 #[.int .i64 0, .int .i32 r, .pointer (some ⟨R5, o5 + i * 5, none⟩)] (w.drewN q) fun e w' => e = .returned (.int .i32 (wrap32 (convertR 0 r x))) ∧ ∃ q', w' = (w.drewN q).drewN q') := fun q => by
            rw [hx.out]
            exact Tryd.unicode_convertCase 0 (by omega) r R5 (o5 + i * 5) (caseA.getD i (0, 0, 0, 0, 0)) (w.drewN q) hlo5 hhi5 (caseA_ok2 i hil).2 ((unhide HC5) i hil).1 ((unhide HC5).delta i hil 0 (by omega))
          have HC1 := hide C1
          have HC0 := hide C0
          obtain ⟨l1, hl1⟩ : ∃ l1, Hid (l1 = wrap32 (convertR 1 r x)) := ⟨_, rfl⟩
          obtain ⟨l0, hl0⟩ : ∃ l0, Hid (l0 = wrap32 (convertR 0 r x)) := ⟨_, rfl⟩
          have HS2 : Hid (sfW r = if l1 ≠ r then l1 else l0) := by
            rw [Hid, unhide HS, hl1.out, hl0.out, hx.out]
            rfl
          rw [← hl1.out] at HC1
          rw [← hl0.out] at HC0
          clear C1 C0 hi hlo5 hhi5 HS
          go_wp2_with fail
          refine (unhide HCL).mono ?_
          rintro e w1 ⟨rfl, rfl⟩
          go_wp2_with fail
          refine (unhide ((unhide HC1) 0)).mono ?_
          rintro e w1 ⟨rfl, q1, rfl⟩
          by_cases hne : l1 = r
          · have hb : (l1 != r) = false := by rw [hne]; simp
            have HS3 : Hid (sfW r = l0) := by rw [Hid, unhide HS2, if_neg (by simp [hne])]
            clear hne
            go_wp2_with fail
            refine (unhide ((unhide HC0) q1)).mono ?_
            rintro e w1 ⟨rfl, q2, rfl⟩
            go_wp2_with fail
            go_ret
            exact ⟨by rw [unhide HS3]; rfl, _, rfl⟩
          · have hb : (l1 != r) = true := by rw [bne_iff_ne]; exact hne
            have HS3 : Hid (sfW r = l1) := by rw [Hid, unhide HS2, if_pos hne]
            clear hne
            go_wp2_with fail
            go_ret
            exact ⟨by rw [unhide HS3]; rfl, _, rfl⟩
end Go.Proofs.Qxb6608677aDoor
