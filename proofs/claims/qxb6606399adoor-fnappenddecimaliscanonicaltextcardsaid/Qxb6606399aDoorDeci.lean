import Derived.Test.Qxb6606399aDoorExpo
import Derived.Lib.SlBytesConst
namespace Go.Proofs.Qxb6606399aDoor
open Go.RowKit

theorem mark_at (w : World) (x : UInt8) : At (w.alloc (.cells #[bv x] 5 (1, 2))) (some ⟨w.heap.size, 0, none⟩) [x] := fun _ => ⟨_, _, rfl, fun i hi => by
  obtain rfl : i = 0 := by simpa using hi
  have := block_new w (.cells #[bv x] 5 (1, 2))
  simp only [World.cell?, this]
  rfl⟩
theorem any_exp (ip f x : List UInt8) (hi : AllDig ip) (hf : IsFrac f) (hx : IsExp x) : anyIdx (ip ++ (f ++ x)) = if x = [] then -1 else ((ip ++ f).length : Int) := by
  have hno : ∀ c ∈ ip ++ f, anyB c = false := fun c hc => by
    have key : ∀ d : UInt8, digB d = true → anyB d = false := fun d hd => by
      have := (digB_iff d).1 hd
      unfold anyB
      rw [beq_eq_false_iff_ne.2 (by rintro rfl; exact absurd this.2 (by decide)), beq_eq_false_iff_ne.2 (by rintro rfl; exact absurd this.2 (by decide))]
      rfl
    rcases List.mem_append.1 hc with h | h
    · exact key c (hi c h)
    · rcases hf with rfl | ⟨d, rfl, _, ha⟩
      · simp at h
      · rcases List.mem_cons.1 h with rfl | h'
        · rfl
        · exact key c (ha c h')
  have hfull : (ip ++ f).findIdx anyB = (ip ++ f).length := List.findIdx_eq_length.2 (fun c hc => hno c hc)
  unfold anyIdx
  rw [← List.append_assoc, List.findIdx_append, hfull, if_neg (Nat.lt_irrefl (ip ++ f).length)]
  rcases hx with rfl | ⟨e, y, rfl, he, _⟩
  · rw [if_pos rfl, if_neg (by simp)]
  · have h0 : (e :: y).findIdx anyB = 0 := by
      rw [List.findIdx_cons]
      have : anyB e = true := by rcases he with rfl | rfl <;> rfl
      rw [this]
      rfl
    rw [h0, Nat.zero_add, if_pos (by rw [List.length_append]; simp), if_neg (by simp)]
theorem y_ok {x : List UInt8} (hx : IsExp x) : yOf x = [] ∨ ExT (yOf x) := by
  rcases hx with rfl | ⟨e, y, rfl, _, hy⟩
  · exact .inl rfl
  · exact .inr hy
theorem shift_bd (ip fd : List UInt8) (h1 : ip.length ≤ 4194304) (h2 : fd.length ≤ 4194304) : -4294967296 < shiftOf ip fd ∧ shiftOf ip fd < 4294967296 := by
  have a := tR_len ip
  have b := tR_len fd
  unfold shiftOf
  split <;> omega
theorem core_len (ip fd : List UInt8) : (ipOf ip fd).length ≤ ip.length ∧ (fdOf ip fd).length ≤ fd.length := by
  have a := tR_len ip
  have b := tR_len fd
  constructor
  · unfold ipOf
    split
    · have := tL_len (tR ip); omega
    · exact tL_len ip
  · unfold fdOf
    split
    · have := tL_len (tR fd); omega
    · exact b

set_option maxRecDepth 100000 in
set_option maxHeartbeats 4000000 in
theorem deci_call (B n : Nat) (v : Value) (l0 t s ip f x : List UInt8) (px : Option Addr) (cx : Nat) (hP : Parts t s ip f x) (w : World) (hA : Apx B w v n l0 n) (hB : B ≤ w.heap.size) (hB0 : 0 < B) (hr : Rd B w px cx t) (hn : n ≤ 1048576) (ht : t.length ≤ 1048576)
    (hT : Lib.Utf8Tabs 1 2 w) (mx : Int) (hmx : w.cell? ⟨0, 0, none⟩ = some (.int .i64 mx)) (htab : Lib.TabBelow Tryd.prog B w (Tryd.prog.globals[3]!.name) .u64 Lib.pow10Tab) :
    Calls Tryd.prog 18 #[v, .slice px t.length cx] w (ExpoEnd B n l0 (canon s ip f x) w) := by
  obtain ⟨hte, hs, hi, hf, hx⟩ := hP
  have hid := int_dig hi
  have hine : ip ≠ [] := by obtain ⟨c, r, rfl, _⟩ := int_head hi; simp
  have hipl : 0 < ip.length := List.length_pos_iff.2 hine
  have htl : t.length = s.length + (ip ++ (f ++ x)).length := by rw [hte, List.length_append]
  have hrl : (ip ++ (f ++ x)).length = ip.length + f.length + x.length := by rw [List.length_append, List.length_append]; omega
  have hsl : s.length ≤ 1 := by rcases hs with rfl | rfl <;> simp
  obtain ⟨neg, hneg⟩ : ∃ neg : Bool, Hid (s = if neg then [45] else []) := by
    rcases hs with rfl | rfl
    · exact ⟨false, rfl⟩
    · exact ⟨true, rfl⟩
  have htop : 0 < t.length := by omega
  obtain ⟨b, o, rfl, hc⟩ := hr.2.2.1 htop
  have hcx1 := hr.1
  have hcx2 := hr.2.1
  have hx0 : ((t[0].toNat : Int) == 45) = neg := by
    have h1 : t[0] = if neg then (45 : UInt8) else ip[0] := by
      have := hneg.out
      cases neg with
      | true => simp only [hte, this]; rfl
      | false =>
        simp only [if_false, Bool.false_eq_true] at this
        simp only [hte, this, List.nil_append, Bool.false_eq_true, if_false]
        rw [List.getElem_append_left hipl]
    rw [h1]
    cases neg with
    | true => rfl
    | false =>
      have := (digB_iff ip[0]).1 (hid _ (List.getElem_mem hipl))
      exact beq_eq_false_iff_ne.2 (by simp only [Bool.false_eq_true, if_false]; omega)
  obtain ⟨x0, hcx0, HX0⟩ : ∃ x : Nat, w.cell? ⟨b, o, none⟩ = some (.int .u8 (x : Int)) ∧ Hid (x = (t[0]).toNat) := ⟨(t[0]).toNat, hc 0 htop, rfl⟩
  rw [← HX0.out] at hx0
  have HR := hide hr
  have HA := hide hA
  have HT := hide hT
  have HM := hide hmx
  have HTB := hide htab
  have HTE := hide hte
  have HTL := hide htl
  have HRL := hide hrl
  have Hf := hide hf
  have Hx := hide hx
  have HI := hide hid
  have Hine := hide hine
  have hw0 : 0 < w.heap.size := by omega
  clear hr hA hT hmx htab hte hs hi hf hx hid hc HX0 htl hrl hine
  obtain ⟨R1, hR1⟩ : ∃ R1, Hid (R1 = (ip ++ (f ++ x)).length) := ⟨_, rfl⟩
  have hR1b : R1 ≤ t.length ∧ t.length ≤ R1 + 1 := by have h1 := hR1.out; have h2 := unhide HTL; omega
  obtain ⟨hR1c, hR1d⟩ := hR1b
  have hR1p : 0 < R1 := by have h1 := hR1.out; have h2 := unhide HRL; omega
  have hR1s : neg = true → t.length = R1 + 1 := fun e => by have h1 := hR1.out; have h2 := unhide HTL; have h3 := hneg.out; rw [e] at h3; rw [h3] at h2; simp only [if_true, List.length_singleton] at h2; omega
  have hR1n : neg = false → t.length = R1 := fun e => by have h1 := hR1.out; have h2 := unhide HTL; have h3 := hneg.out; rw [e] at h3; rw [h3] at h2; simp only [Bool.false_eq_true, if_false, List.length_nil] at h2; omega
  have HRs := hide hR1s
  have HRn := hide hR1n
  clear hR1s hR1n
  have kc := fun (w : World) (C : Array Value) (n c : Nat) => Lib.run_convert_bytes_const (P := Tryd.prog) w 22 5 C n c Tryd.underlying22 Tryd.underlying5
  go_enter Tryd.func18, Tryd.ntmps18
  go_upto_if 17 with fail
  go_cut [1] (fun nv wx => ∃ o1 c1, nv = .slice (some ⟨b, o1, none⟩) R1 c1 ∧ Hid (Rd B w (some ⟨b, o1, none⟩) c1 (ip ++ (f ++ x))) ∧ w = wx)
  case first =>
    as_aux_lemma =>
      cases neg with
      | true =>
        have h1 := (unhide HRs) rfl
        have h2 : cx - 1 ≠ 0 := by omega
        have hcz : ¬ (cx = 1) := by omega
        have HR' := hide ((unhide HR).from 1 (by omega))
        rw [show t.drop 1 = ip ++ (f ++ x) from by rw [unhide HTE, hneg.out]; rfl, Option.map_some, Addr.add_lit] at HR'
        go_wp2_with fail
        go_meet
        case rel => exact ⟨o + 1, cx - 1, rfl, HR', rfl⟩
      | false =>
        have h1 := (unhide HRn) rfl
        have HR' : Hid (Rd B w (some ⟨b, o, none⟩) cx (ip ++ (f ++ x))) := by
          have := unhide HR
          rw [unhide HTE, hneg.out] at this
          exact this
        go_wp2_with fail
        go_meet
        case rel => exact ⟨o, cx, rfl, HR', rfl⟩
  case rest =>
    obtain ⟨o1, c1, rfl, HR1, rfl⟩ := hcut
    have HAny := hide (any_any (some ⟨b, o1, none⟩) c1 (ip ++ (f ++ x)) w (by have := hR1.out; omega) (unhide HR1).1 (unhide HR1).2.2.1 (unhide HT) mx (unhide HM))
    rw [any_exp ip f x (unhide HI) (unhide Hf) (unhide Hx), ← hR1.out] at HAny
    have hc1a := (unhide HR1).1
    have hc1b := (unhide HR1).2.1
    rw [← hR1.out] at hc1a
    clear HR hcx0
    go_wp2_with fail
    refine (unhide HAny).mono ?_
    rintro e w2 ⟨rfl, hb2⟩
    have HR2 := hide ((unhide HR1).later (hb2.mono hB))
    obtain ⟨R2, hR2⟩ : ∃ R2, Hid (R2 = (ip ++ f).length) := ⟨_, rfl⟩
    rw [← hR2.out]
    obtain ⟨RY, hRY⟩ : ∃ RY, Hid (RY = (yOf x).length) := ⟨_, rfl⟩
    clear HAny HR1
    go_upto_if 23 with fail
    go_cut [1, 6, 7] (fun nv ev _iv wx => ∃ py cy, nv = .slice (some ⟨b, o1, none⟩) R2 c1 ∧ Hid (Rd B wx (some ⟨b, o1, none⟩) c1 (ip ++ f)) ∧ ev = .slice py RY cy ∧ Hid (Rd B wx py cy (yOf x)) ∧ Below w.heap.size w wx)
    case first =>
      as_aux_lemma =>
        by_cases hx0' : x = []
        · have h1 : R1 = R2 := by rw [hR1.out, hR2.out, hx0', List.append_nil]
          have h2 : RY = 0 := by rw [hRY.out, hx0']; rfl
          have HR2' : Hid (Rd B w2 (some ⟨b, o1, none⟩) c1 (ip ++ f)) := by
            have := unhide HR2
            rw [hx0', List.append_nil] at this
            exact this
          subst h1 h2
          simp only [hx0', if_true]
          go_wp2_with fail
          go_meet
          case rel => exact ⟨none, 0, rfl, HR2', rfl, by rw [hx0']; exact Rd.nil B w2, hb2⟩
        · obtain ⟨e, y, hxe⟩ : ∃ e y, x = e :: y := by cases x with | nil => exact absurd rfl hx0' | cons e y => exact ⟨e, y, rfl⟩
          have hyx : yOf x = y := by rw [hxe]; rfl
          have hyne : 0 < y.length := by
            rcases (unhide Hx) with h | ⟨e', y', h', _, sg, d, hy', _, hd', _⟩
            · exact absurd h hx0'
            · rw [hxe] at h'
              cases h'
              rw [hy', List.length_append]
              have := List.length_pos_iff.2 hd'
              omega
          have h1 : R1 = R2 + 1 + RY := by rw [hR1.out, hR2.out, hRY.out, hyx, hxe, List.length_append, List.length_append, List.length_append, List.length_cons]; omega
          have h2 : 0 < RY := by rw [hRY.out, hyx]; exact hyne
          have e3 : (ip ++ (f ++ x)).drop (R2 + 1) = yOf x := by
            rw [hyx, hxe, ← List.append_assoc, List.drop_append, List.drop_of_length_le (by rw [hR2.out]; omega), List.nil_append, show R2 + 1 - (ip ++ f).length = 1 by rw [hR2.out]; omega]
            rfl
          have HRy := hide ((unhide HR2).from (R2 + 1) (by rw [← hR1.out]; omega))
          rw [e3, Option.map_some, Addr.add_lit] at HRy
          have HRp := hide ((unhide HR2).pre R2)
          rw [← List.append_assoc, List.take_left' hR2.out.symm] at HRp
          have hcz : ¬ (c1 = R2 + 1) := by omega
          have hq1 : R2 + 1 ≤ R1 := by omega
          have hq2 : R1 - (R2 + 1) = RY := by omega
          rw [if_neg hx0']
          have H1 := hide h1
          clear h1
          go_wp2_with fail
          go_quiet (fail)
          go_wp2_with fail
          go_meet
          case rel => exact ⟨some ⟨b, o1 + (R2 + 1), none⟩, c1 - (R2 + 1), rfl, (unhide HRp).later (below_drewN (Below.refl _ _) _), rfl, (unhide HRy).later (below_drewN (Below.refl _ _) _), below_drewN hb2 _⟩
    case rest =>
      obtain ⟨py, cy, rfl, HR3, rfl, HRy, hb3⟩ := hcut
      obtain ⟨w3, hw3⟩ : ∃ w3, Hid (w3 = wc) := ⟨_, rfl⟩
      rw [← hw3.out] at HR3 HRy hb3 ⊢
      clear hw3 hb2 HR2
      have hB3 : B ≤ w3.heap.size := Nat.le_trans hB hb3.size
      have HM3 := hide ((hb3.cell (p := ⟨0, 0, none⟩) hw0).trans (unhide HM))
      have HTB3 := hide ((unhide HTB).on (hb3.mono hB))
      have HCut := hide (cut_call (q := some ⟨w3.heap.size, 0, none⟩) (cq := 1) ((unhide HR3).later ((below_new w3 (.cells #[bv 46] 5 (1, 2))).mono hB3)) (unhide HI) (unhide Hine) (unhide Hf) (mark_at w3 46) mx (((below_new w3 _).cell (p := ⟨0, 0, none⟩) (show 0 < w3.heap.size by omega)).trans (unhide HM3)))
      rw [← hR2.out] at HCut
      go_wp2_with fail
      refine (unhide HCut).mono ?_
      rintro e w4 ⟨pf, cf, bf, rfl, hrf, q4, hw4⟩
      have hb34 : Below w3.heap.size w3 w4 := by rw [hw4]; exact below_drewN (below_new _ _) _
      have HR4 := hide ((unhide HR3).later (hb34.mono hB3))
      have HRy4 := hide ((unhide HRy).later (hb34.mono hB3))
      have HRf : Hid (Rd B w4 pf cf (fdText f)) := by rw [hw4]; exact hrf.later (below_drewN (Below.refl _ _) _)
      have hb4 : Below w.heap.size w w4 := hb3.trans (hb34.mono hb3.size)
      have hB4 : B ≤ w4.heap.size := Nat.le_trans hB hb4.size
      have HTB4 := hide ((unhide HTB).on (hb4.mono hB))
      have HA4 := hide ((unhide HA).kept hB hb4)
      have hfl : (fdText f).length ≤ f.length := by unfold fdText; rw [List.length_drop]; omega
      obtain ⟨fd, hfd⟩ : ∃ fd, Hid (fd = fdText f) := ⟨_, rfl⟩
      rw [← hfd.out] at HRf hfl ⊢
      clear hw4 hrf hb34 HCut HR3 HRy HTB3 HM3 hb3 hB3 HT HM HA HTB
      have hLf : f.length ≤ 1048576 ∧ ip.length ≤ 1048576 ∧ (yOf x).length ≤ 1048576 := by
        have h1 := unhide HRL
        have h2 := hR1.out
        have h3 : (yOf x).length ≤ x.length := by unfold yOf; rw [List.length_drop]; omega
        omega
      obtain ⟨hL1, hL2, hL3⟩ := hLf
      have hfd2 : fd.length ≤ 1048576 := by omega
      obtain ⟨FT, hFT⟩ : ∃ FT, Hid (FT = (tR fd).length) := ⟨_, rfl⟩
      have hFTl : FT ≤ 1048576 := by rw [hFT.out]; have := tR_len fd; omega
      go_wp2_with fail
      refine (tR_call (unhide HRf)).mono ?_
      rintro e w5 ⟨rfl, rfl⟩
      rw [← hFT.out]
      have HRi : Hid (Rd B w4 (some ⟨b, o1, none⟩) c1 ip) := by
        have := (unhide HR4).pre ip.length
        rwa [List.take_left' rfl] at this
      obtain ⟨ipT, hipT⟩ : ∃ ipT, Hid (ipT = if tR fd = [] then tR ip else ip) := ⟨_, rfl⟩
      obtain ⟨IT, hIT⟩ : ∃ IT, Hid (IT = ipT.length) := ⟨_, rfl⟩
      obtain ⟨SH, hSH⟩ : ∃ SH, Hid (SH = shiftOf ip fd) := ⟨_, rfl⟩
      have HRt : Hid (Rd B w4 (some ⟨b, o1, none⟩) c1 ipT) := by
        rw [Hid, hipT.out]
        split
        · have := (unhide HRi).pre (tR ip).length
          rwa [← tR_take] at this
        · exact unhide HRi
      go_upto_if 43 with fail
      go_cut [8, 11, 12] (fun iv sv _dv wx => iv = .slice (some ⟨b, o1, none⟩) IT c1 ∧ sv = .int .i64 SH ∧ w4 = wx)
      case first =>
        as_aux_lemma =>
          by_cases h0 : FT = 0
          · have h0' : tR fd = [] := List.eq_nil_of_length_eq_zero (by rw [← hFT.out]; exact h0)
            subst h0
            obtain ⟨TI, hTI⟩ : ∃ TI, Hid (TI = (tR ip).length) := ⟨_, rfl⟩
            have hTIl : TI ≤ ip.length := by rw [hTI.out]; exact tR_len ip
            have e1 : IT = TI := by rw [hIT.out, hipT.out, if_pos h0', hTI.out]
            have e2 : SH = (ip.length : Int) - (TI : Int) := by rw [hSH.out]; unfold shiftOf; rw [if_pos h0', hTI.out]
            have HTc := hide (tR_call (unhide HRi))
            rw [← hTI.out] at HTc
            clear h0'
            go_wp2_with fail
            refine (unhide HTc).mono ?_
            rintro e w5 ⟨rfl, rfl⟩
            go_wp2_with fail
            go_meet
            case rel => exact ⟨by rw [e1], by rw [e2], rfl⟩
          · have h0' : tR fd ≠ [] := fun e => h0 (by rw [hFT.out, e]; rfl)
            have e1 : ip.length = IT := by rw [hIT.out, hipT.out, if_neg h0']
            have e2 : SH = -(FT : Int) := by rw [hSH.out]; unfold shiftOf; rw [if_neg h0', hFT.out]
            have h1 : (0 : Int) < (FT : Int) := by omega
            have E1 := hide e1
            have E2 := hide e2
            clear e1 e2 h0'
            go_wp2_with fail
            go_meet
            case rel => exact ⟨by rw [unhide E1], by rw [unhide E2], rfl⟩
      case rest =>
        obtain ⟨rfl, rfl, rfl⟩ := hcut
        have HTl := hide (tL_call (unhide HRt))
        rw [← hIT.out] at HTl
        go_wp2_with fail
        refine (unhide HTl).mono ?_
        rintro e w6 ⟨p8, c8, rfl, hr8, rfl⟩
        have e8 : tL ipT = ipOf ip fd := by rw [hipT.out]; rfl
        rw [e8] at hr8 ⊢
        have HR8 := hide hr8
        obtain ⟨L8, hL8⟩ : ∃ L8, Hid (L8 = (ipOf ip fd).length) := ⟨_, rfl⟩
        obtain ⟨L9, hL9⟩ : ∃ L9, Hid (L9 = (fdOf ip fd).length) := ⟨_, rfl⟩
        rw [← hL8.out]
        have hl8 : L8 ≤ 1048576 := by rw [hL8.out]; have := (core_len ip fd).1; omega
        have hl9 : L9 ≤ 1048576 := by rw [hL9.out]; have := (core_len ip fd).2; omega
        clear hr8 e8 HTl
        have HRfT : Hid (Rd B w4 pf cf (tR fd)) := by
          have := (unhide HRf).pre (tR fd).length
          rwa [← tR_take] at this
        go_upto_if 59 with fail
        go_cut [9] (fun fv wx => ∃ p9 c9, fv = .slice p9 L9 c9 ∧ Hid (Rd B w4 p9 c9 (fdOf ip fd)) ∧ w4 = wx)
        case first =>
          as_aux_lemma =>
            by_cases h0 : L8 = 0
            · have h0' : ipOf ip fd = [] := List.eq_nil_of_length_eq_zero (by rw [← hL8.out]; exact h0)
              have e9 : tL (tR fd) = fdOf ip fd := by unfold fdOf; rw [if_pos h0']
              have HTl := hide (tL_call (unhide HRfT))
              rw [e9, ← hL9.out, ← hFT.out] at HTl
              subst h0
              clear h0' e9
              go_wp2_with fail
              refine (unhide HTl).mono ?_
              rintro e w6 ⟨p9, c9, rfl, hr9, rfl⟩
              have HR9 := hide hr9
              clear hr9
              go_wp2_with fail
              go_meet
              case rel => exact ⟨p9, c9, rfl, HR9, rfl⟩
            · have h0' : ipOf ip fd ≠ [] := fun e => h0 (by rw [hL8.out, e]; rfl)
              have e9 : tR fd = fdOf ip fd := by unfold fdOf; rw [if_neg h0']
              have E9 : Hid (FT = L9) := by rw [Hid, hFT.out, hL9.out, e9]
              have HR9 : Hid (Rd B w4 pf cf (fdOf ip fd)) := by rw [← e9]; exact HRfT
              have h1 : ((L8 : Int) == 0) = false := beq_eq_false_iff_ne.2 (by omega)
              clear h0' e9
              go_wp2_with fail
              go_meet
              case rel => exact ⟨pf, cf, by rw [unhide E9], HR9, rfl⟩
        case rest =>
          obtain ⟨p9, c9, rfl, HR9, rfl⟩ := hcut
          obtain ⟨CE, hCE⟩ : ∃ CE : Bool, Hid (CE = decide (coreOf ip fd = [])) := ⟨_, rfl⟩
          have hcl : Hid (coreOf ip fd = [] ↔ (L8 = 0 ∧ L9 = 0)) := by
            rw [Hid, hL8.out, hL9.out]
            unfold coreOf
            rw [List.append_eq_nil_iff, List.length_eq_zero_iff, List.length_eq_zero_iff]
          go_upto_region 19 with fail
          go_cut [69] (fun cv wx => cv = .bool CE ∧ w4 = wx)
          case first =>
            as_aux_lemma =>
              by_cases h8 : L8 = 0
              · by_cases h9 : L9 = 0
                · have : CE = true := by rw [hCE.out]; exact decide_eq_true ((unhide hcl).2 ⟨h8, h9⟩)
                  subst h8 h9 this
                  go_wp2_with fail
                  go_meet
                  case rel => exact ⟨rfl, rfl⟩
                · have : CE = false := by rw [hCE.out]; exact decide_eq_false (fun e => h9 ((unhide hcl).1 e).2)
                  have h9' : ((L9 : Int) == 0) = false := beq_eq_false_iff_ne.2 (by omega)
                  subst h8 this
                  go_wp2_with fail
                  go_meet
                  case rel => exact ⟨rfl, rfl⟩
              · have : CE = false := by rw [hCE.out]; exact decide_eq_false (fun e => h8 ((unhide hcl).1 e).1)
                have h8' : ((L8 : Int) == 0) = false := beq_eq_false_iff_ne.2 (by omega)
                subst this
                go_wp2_with fail
                go_meet
                case rel => exact ⟨rfl, rfl⟩
          case rest =>
            obtain ⟨rfl, rfl⟩ := hcut
            by_cases hcore : coreOf ip fd = []
            · as_aux_lemma =>
                have hce : CE = true := by rw [hCE.out]; exact decide_eq_true hcore
                subst hce
                have HN := hide ((unhide HA4).kept hB4 (below_new w4 (.cells #[bv 48] 5)))
                go_wp2_with (first | (at_builtin; refine append_bytes rfl _ _ rfl B v n l0 n rfl (unhide HN) (some ⟨w4.heap.size, 0, none⟩) 1 1 [48] rfl rfl (new_at w4 48) (fun e => by cases e) (fun x e => by cases e; rfl) (by omega) (Nat.le_trans hB4 (size_new _ _)) ?_; intro v7 w7 hA7 hb7) | fail)
                have HO7 := hide (hA7.own (by omega))
                clear hA7
                go_wp2_with fail
                go_ret
                refine ⟨v7, rfl, ?_, (hb4.mono hB).trans (((below_new w4 _).mono hB4).trans hb7)⟩
                rw [canon_zero s ip f x (by rw [← hfd.out]; exact hcore)]
                exact unhide HO7
            · have hce : CE = false := by rw [hCE.out]; exact decide_eq_false hcore
              subst hce
              have hpos : Hid (0 < L8 + L9) := by
                rw [Hid]
                rcases Nat.eq_zero_or_pos (L8 + L9) with h | h
                · exact absurd ((unhide hcl).2 (by omega)) hcore
                · exact h
              go_upto_if 73 with fail
              go_cut [0] (fun bv' wx => ∃ n7, Hid (Apx B wx bv' n7 (l0 ++ s) n) ∧ Hid (n7 = n + s.length) ∧ n7 ≤ n + 1 ∧ Below B w4 wx)
              case first =>
                as_aux_lemma =>
                  cases neg with
                  | true =>
                    have es : s = [45] := hneg.out
                    have HN := hide ((unhide HA4).kept hB4 (below_new w4 (.cells #[bv 45] 5)))
                    go_wp2_with (first | (at_builtin; refine append_bytes rfl _ _ rfl B v n l0 n rfl (unhide HN) (some ⟨w4.heap.size, 0, none⟩) 1 1 [45] rfl rfl (new_at w4 45) (fun e => by cases e) (fun x e => by cases e; rfl) (by omega) (Nat.le_trans hB4 (size_new _ _)) ?_; intro v7 w7 hA7 hb7) | fail)
                    have HA7 := hide hA7
                    clear hA7
                    go_wp2_with fail
                    go_meet
                    case rel => exact ⟨n + 1, by rw [es]; exact HA7, by rw [Hid, es]; rfl, by omega, ((below_new w4 _).mono hB4).trans hb7⟩
                  | false =>
                    have es : s = [] := hneg.out
                    go_wp2_with fail
                    go_meet
                    case rel => exact ⟨n, by rw [es, List.append_nil]; exact HA4, by rw [Hid, es]; rfl, by omega, Below.refl _ _⟩
              case rest =>
                obtain ⟨n7, HA7, HN7, hn7, hb7⟩ := hcut
                obtain ⟨w7, hw7⟩ : ∃ w7, Hid (w7 = wc) := ⟨_, rfl⟩
                rw [← hw7.out] at HA7 hb7 ⊢
                clear hw7
                have hB7 : B ≤ w7.heap.size := Nat.le_trans hB4 hb7.size
                have HR87 := hide ((unhide HR8).later hb7)
                go_upto_region 24 with (first | (at_builtin; refine append_bytes rfl _ _ rfl B _ n7 (l0 ++ s) n rfl (unhide HA7) p8 L8 c8 (ipOf ip fd) rfl hL8.out.symm (unhide HR87).2.2.1 (unhide HR87).2.2.2.1 (fun x e => ((unhide HR87).2.2.2.2 x e).2) (by omega) hB7 ?_; intro v8 w8 hA8 hb8) | fail)
                have HA8 := hide hA8
                have hB8 : B ≤ w8.heap.size := Nat.le_trans hB7 hb8.size
                have HR98 := hide ((unhide HR9).later (hb7.trans hb8))
                clear hA8
                go_upto_region 25 with (first | (at_builtin; refine append_bytes rfl _ _ rfl B v8 (n7 + L8) (l0 ++ s ++ ipOf ip fd) n rfl (unhide HA8) p9 L9 c9 (fdOf ip fd) rfl hL9.out.symm (unhide HR98).2.2.1 (unhide HR98).2.2.2.1 (fun x e => ((unhide HR98).2.2.2.2 x e).2) (by omega) hB8 ?_; intro v9 w9 hA9 hb9) | fail)
                have hb49 : Below B w4 w9 := hb7.trans (hb8.trans hb9)
                have hB9 : B ≤ w9.heap.size := Nat.le_trans hB8 hb9.size
                have hsb := shift_bd ip fd (by omega) (by omega)
                rw [← hSH.out] at hsb
                have hgt : n < n7 + L8 + L9 := by have h1 := unhide HN7; have h2 := unhide hpos; omega
                have HE := hide (expo_call B (n7 + L8 + L9) v9 (l0 ++ s ++ ipOf ip fd ++ fdOf ip fd) (yOf x) py cy SH hsb.1 hsb.2 w9 (hA9.own hgt) hB9 ((unhide HRy4).later hb49) (y_ok (unhide Hx)) (by omega) (by omega) ((unhide HTB4).on hb49))
                rw [← hRY.out] at HE
                clear hA9 HA8 HA7 hgt hsb
                go_wp2_with fail
                refine (unhide HE).mono ?_
                rintro e w10 ⟨v10, rfl, ho10, hb10⟩
                have HO10 := hide ho10
                clear ho10 HE
                go_wp2_with fail
                go_ret
                refine ⟨v10, rfl, ?_, (hb4.mono hB).trans (hb49.trans hb10)⟩
                have hcan : canon s ip f x = s ++ (coreOf ip fd ++ expText (expOf (yOf x) + SH)) := by
                  unfold canon canonOf
                  rw [← hfd.out, if_neg hcore, hSH.out]
                have ho := unhide HO10
                have e1 : l0 ++ s ++ ipOf ip fd ++ fdOf ip fd ++ expText (expOf (yOf x) + SH) = l0 ++ canon s ip f x := by
                  rw [hcan]; unfold coreOf; simp
                have e2 : n7 + L8 + L9 + (expText (expOf (yOf x) + SH)).length = n + (canon s ip f x).length := by
                  rw [hcan, List.length_append, List.length_append]
                  unfold coreOf
                  rw [List.length_append, ← hL8.out, ← hL9.out, unhide HN7]
                  omega
                rw [e1, e2] at ho
                exact ho
end Go.Proofs.Qxb6606399aDoor
