import Derived.Test.Qxb6606399aDoorMagsB
namespace Go.Proofs.Qxb6606399aDoor
open Go.RowKit

set_option maxRecDepth 100000 in
set_option maxHeartbeats 4000000 in
theorem sub_call (p q : Option Addr) (c d : Nat) (l m : List UInt8) (hl : l.length ≤ 4194304) (h0 : 0 < l.length) (hml : m.length ≤ l.length) (hge : valN m ≤ valN l) (w : World) (h1 : At w p l) (h2 : At w q m) (hdl : AllDig l) (hdm : AllDig m) :
    Calls Tryd.prog 28 #[.slice p l.length c, .slice q m.length d] w (MagEnd (valN l - valN m) w) := by
  obtain ⟨i0, hi0, hz0, hz1, hz2⟩ := info_parts Tryd.info5
  obtain ⟨b, off, rfl, hcl⟩ := h1 h0
  have HC := hide hcl
  have H2 := hide h2
  have HDl := hide hdl
  have HDm := hide hdm
  have HGE := hide hge
  have hbw := hcl.lt
  have Hbw := hide hbw
  clear h1 h2 hdl hdm hcl hge hbw
  go_enter Tryd.func28, Tryd.ntmps28
  go_upto_region 2 with (first | (at_make; refine wpList_make_full _ rfl _ _ 22 rfl w.heap.size 5 i0 (.int .u8 0) 1 Tryd.underlying22 hi0 hz0 hz1 .i64 .i64 l.length l.length l.length rfl rfl rfl rfl (by rw [hz2]; omega) (by unfold maxLen; omega) (Nat.le_refl _) ?_; intro w1 hown hgr) | fail)
  rw [show (madeCells (Value.int IntKind.u8 0).cells (l.length * 1)).toList = List.replicate l.length (Value.int .u8 0) from by rw [Nat.mul_one]; exact toList_madeCells_one _ _] at hown
  have hb1 : Below w.heap.size w w1 := (Below.refl _ _).grown hgr (Nat.le_refl _) (fun _ h => by cases h)
  have HR1 := hide (tail_made (owns_block hown))
  clear hown hgr
  go_wp2_with fail
  go_loopg [7, 6] l.length (fun gg kv cv wr => ∃ (k cc : Nat) (R : List UInt8), gg = l.length - k ∧ k ≤ l.length ∧ kv = .int .i64 (k : Nat) ∧ cv = .int .i64 (cc : Nat) ∧ cc ≤ 1 ∧ Hid (R.length = k ∧ AllDig R ∧ low l k + cc * 10 ^ k = valN R + low m k) ∧ Hid (TailAt wr w.heap.size l.length R) ∧ Below w.heap.size w wr)
  case atStart => exact ⟨0, 0, [], rfl, Nat.zero_le _, rfl, rfl, by omega, ⟨rfl, .nil, by rw [low_zero, low_zero]; rfl⟩, HR1, hb1⟩
  case round =>
    obtain ⟨k, cc, R, rfl, hk, rfl, rfl, hcc, HV, HR, hbr⟩ := hrel
    by_cases hlt : k < l.length
    · have hltz : (k : Int) < (l.length : Int) := by omega
      obtain ⟨A, hA⟩ : ∃ A, Hid (A = digAt l k) := ⟨_, rfl⟩
      obtain ⟨D, hD⟩ : ∃ D, Hid (D = digAt m k) := ⟨_, rfl⟩
      have hA9 : A ≤ 9 := by rw [hA.out]; exact digAt_lt l k (unhide HDl)
      have hD9 : D ≤ 9 := by rw [hD.out]; exact digAt_lt m k (unhide HDm)
      obtain ⟨i, hi⟩ : ∃ i, Hid (i = l.length - 1 - k) := ⟨_, rfl⟩
      have hil : i < l.length := by rw [hi.out]; omega
      have hiz : (l.length : Int) - 1 - (k : Int) = (i : Int) := by have := hi.out; omega
      obtain ⟨x, hx, _, HX⟩ := (unhide HC).at_ (unhide Hbw) hbr i hil
      have hdx := (digB_iff _).1 ((unhide HDl) l[i] (List.getElem_mem hil))
      rw [← HX.out] at hdx
      have HAx : Hid (A = x - 48) := by
        rw [Hid, hA.out, HX.out]
        unfold digAt
        rw [dif_pos hlt]
        have := hi.out
        simp only [← this]
      have hAz : (x : Int) - 48 = (A : Int) := by have := HAx.out; omega
      go_upto_if 33 with fail
      go_cut [8] (fun sv wx => sv = .int .i64 ((A : Int) - (cc : Int) - (D : Int)) ∧ wr = wx)
      case first =>
        as_aux_lemma =>
          by_cases hkl : k < m.length
          · obtain ⟨b2, off2, rfl, hcl⟩ := (unhide H2) (by omega)
            obtain ⟨i2, hi2⟩ : ∃ i, Hid (i = m.length - 1 - k) := ⟨_, rfl⟩
            have hil2 : i2 < m.length := by rw [hi2.out]; omega
            have hiz2 : (m.length : Int) - 1 - (k : Int) = (i2 : Int) := by have := hi2.out; omega
            obtain ⟨y, hy, _, HY⟩ := hcl.at_ hcl.lt hbr i2 hil2
            have hdy := (digB_iff _).1 ((unhide HDm) m[i2] (List.getElem_mem hil2))
            rw [← HY.out] at hdy
            have HDy : Hid (D = y - 48) := by
              rw [Hid, hD.out, HY.out]
              unfold digAt
              rw [dif_pos hkl]
              have := hi2.out
              simp only [← this]
            have hDz : (y : Int) - 48 = (D : Int) := by have := HDy.out; omega
            have hkz : (k : Int) < (m.length : Int) := by omega
            clear hcl
            go_wp2_with fail
            go_meet
            case rel => exact ⟨rfl, rfl⟩
          · have hD0 : D = 0 := by rw [hD.out]; unfold digAt; rw [dif_neg hkl]
            have hkz : ¬ ((k : Int) < (m.length : Int)) := by omega
            subst hD0
            go_wp2_with fail
            go_meet
            case rel => exact ⟨by congr 1; omega, rfl⟩
      case rest =>
        obtain ⟨rfl, rfl⟩ := hcut
        obtain ⟨Z, hZ⟩ : ∃ Z : Int, Hid (Z = (A : Int) - (cc : Int) - (D : Int)) := ⟨_, rfl⟩
        rw [← hZ.out]
        have hZ1 : -10 ≤ Z := by rw [hZ.out]; omega
        have hZ2 : Z ≤ 9 := by rw [hZ.out]; omega
        obtain ⟨c', hc'⟩ : ∃ c' : Nat, Hid (c' = if Z < 0 then 1 else 0) := ⟨_, rfl⟩
        obtain ⟨dd, hdd⟩ : ∃ dd : Nat, Hid ((dd : Int) = Z + 10 * (c' : Int)) := ⟨(Z + 10 * (c' : Int)).toNat, by rw [Hid]; have := hc'.out; split at this <;> omega⟩
        have hc1 : c' ≤ 1 := by rw [hc'.out]; split <;> omega
        have hd9 : dd ≤ 9 := by have h3 := hdd.out; have h4 := hc'.out; split at h4 <;> omega
        go_upto_if 47 with fail
        go_cut [6, 8] (fun cv sv wx => cv = .int .i64 (c' : Nat) ∧ sv = .int .i64 (dd : Nat) ∧ wr = wx)
        case first =>
          as_aux_lemma =>
            by_cases hneg : Z < 0
            · have e1 : c' = 1 := by rw [hc'.out, if_pos hneg]
              have E2 : Hid (Z + 10 = (dd : Int)) := by have := hdd.out; rw [e1] at this; rw [Hid]; omega
              subst e1
              go_wp2_with fail
              go_meet
              case rel => exact ⟨rfl, by rw [E2.out], rfl⟩
            · have e1 : c' = 0 := by rw [hc'.out, if_neg hneg]
              have E2 : Hid (Z = (dd : Int)) := by have := hdd.out; rw [e1] at this; rw [Hid]; omega
              subst e1
              go_wp2_with fail
              go_meet
              case rel => exact ⟨rfl, by rw [E2.out], rfl⟩
        case rest =>
          obtain ⟨rfl, rfl, rfl⟩ := hcut
          obtain ⟨x', hx'⟩ : ∃ x : UInt8, Hid (x = UInt8.ofNat (48 + dd)) := ⟨_, rfl⟩
          have hxn : Hid (x'.toNat = 48 + dd) := by rw [Hid, hx'.out]; exact digit_nat dd (by omega)
          obtain ⟨hfz, u, hcu⟩ := (unhide HR).at_ i hil
          have HRn : Hid (TailAt (wr.setCell ⟨w.heap.size, i, none⟩ (.int .u8 (48 + (dd : Int)))) w.heap.size l.length (x' :: R)) :=
            (unhide HR).put x' (by rw [(unhide HV).1]; omega) _ (by rw [unhide hxn]; omega) i (by rw [(unhide HV).1, hi.out]; omega)
          have HVn : Hid ((x' :: R).length = k + 1 ∧ AllDig (x' :: R) ∧ low l (k + 1) + c' * 10 ^ (k + 1) = valN (x' :: R) + low m (k + 1)) := by
            refine ⟨by rw [List.length_cons, (unhide HV).1], .cons ((digB_iff x').2 (by rw [unhide hxn]; omega)) (unhide HV).2.1, ?_⟩
            exact sub_step l m R k cc (unhide HV).2.2 (unhide HV).1 x' c' (by rw [unhide hxn, ← hA.out, ← hD.out]; have h3 := hdd.out; have h4 := hZ.out; omega) (by rw [unhide hxn]; omega)
          have hbn : Below w.heap.size w (wr.setCell ⟨w.heap.size, i, none⟩ (.int .u8 (48 + (dd : Int)))) := hbr.setCell (Nat.le_refl _) _
          clear HR HV
          go_wp2_with fail
          go_roundg (l.length - (k + 1))
          case measure => omega
          case rel => exact ⟨k + 1, c', x' :: R, rfl, by omega, by go_num, rfl, hc1, HVn, HRn, hbn⟩
    · obtain rfl : k = l.length := by omega
      have hlen : R.length = l.length := (unhide HV).1
      have hdg : AllDig R := (unhide HV).2.1
      have hval : valN R = valN l - valN m := by
        have h3 := (unhide HV).2.2
        rw [low_all l _ (Nat.le_refl _), low_all m _ hml] at h3
        have h4 := valN_lt R hdg
        rw [hlen] at h4
        have h5 := unhide HGE
        rcases Nat.lt_or_ge cc 1 with h | h
        · have : cc = 0 := by omega
          subst this
          omega
        · have : cc = 1 := by omega
          subst this
          omega
      have hlt' : w.heap.size < wr.heap.size := by obtain ⟨_, h1, _⟩ := unhide HR; exact h1.lt
      have HTz := hide (trimz_row w.heap.size 0 l.length R (by rw [hlen]; omega) (by rw [hlen]; omega) (by omega) wr ((unhide HR).full hlen))
      rw [hlen, mag_tL _ hdg, hval] at HTz
      clear HR HV hlen hdg hval
      go_wp2_with fail
      refine (unhide HTz).mono ?_
      rintro e w9 ⟨o', c', rfl, HC9, hc9, hc9', rfl⟩
      go_wp2_with fail
      go_ret
      exact ⟨o', c', rfl, HC9, hc9, by omega, hlt', hbr⟩
end Go.Proofs.Qxb6606399aDoor
