import Derived.Test.Qxb6606399aDoorSfx
import Derived.Test.Qxb6606399aDoorPlainF
namespace Go.Proofs.Qxb6606399aDoor
open Go.RowKit

/-- What canonicalNumber hands back. -/
def CanEnd (T : List UInt8) (w : World) (e : Ending) (w' : World) : Prop :=
  ∃ p' c', e = .returned (.slice p' T.length c') ∧ Hid (At w' p' T) ∧ Below w.heap.size w w'
theorem canEnd_mk {T : List UInt8} {w w' : World} (U : List UInt8) (hU : T = U) (p' : Option Addr) (n c' : Nat) (hn : n = U.length) (hA : At w' p' U) (hb : Below w.heap.size w w') : CanEnd T w (.returned (.slice p' n c')) w' := by
  subst hU
  subst hn
  exact ⟨p', c', rfl, hA, hb⟩
theorem byte_new (w : World) (x : UInt8) (v : Nat) (hv : v = x.toNat) : CellsL (w.alloc (.cells #[.int .u8 (v : Int)] 5)) w.heap.size 0 [x] := by
  subst hv
  obtain ⟨_, _, e, hcc⟩ := new_at w x (by simp)
  cases e
  exact hcc
theorem parts_pos {l s ip f x : List UInt8} (h : Parts l s ip f x) : 0 < l.length ∧ s.length ≤ 1 ∧ AllDig ip ∧ 0 < ip.length ∧ l.drop s.length = ip ++ (f ++ x) := by
  obtain ⟨h1, h2, h3, h4, h5⟩ := h
  have hi := int_dig h3
  have hp : 0 < ip.length := by
    rcases h3 with rfl | ⟨c, r, rfl, _⟩ <;> simp
  refine ⟨?_, ?_, hi, hp, ?_⟩
  · rw [h1, List.length_append, List.length_append]; omega
  · rcases h2 with rfl | rfl <;> simp
  · rw [h1, List.drop_left]
theorem parts_head {l s ip f x : List UInt8} (h : Parts l s ip f x) (h0 : 0 < l.length) : l[0] = 45 ↔ s = [45] := by
  obtain ⟨h1, h2, h3, h4, h5⟩ := h
  have hi := int_dig h3
  rcases h2 with rfl | rfl
  · have hp : ∃ c r, ip = c :: r := by
      rcases h3 with rfl | ⟨c, r, rfl, _⟩
      · exact ⟨_, _, rfl⟩
      · exact ⟨_, _, rfl⟩
    obtain ⟨c, r, rfl⟩ := hp
    subst h1
    have := (digB_iff c).1 hi.head
    simp
    rintro rfl
    exact absurd this.1 (by decide)
  · subst h1
    simp

set_option maxRecDepth 100000 in
set_option maxHeartbeats 8000000 in
theorem can_call (b off c : Nat) (l s ip f x : List UInt8) (hP : Parts l s ip f x) (hn : l.length ≤ 524288) (hlc : l.length ≤ c) (hc : c ≤ 1073741824) (w : World) (hcl : CellsL w b off l) :
    Calls Tryd.prog 10 #[.slice (some ⟨b, off, none⟩) l.length c] w (CanEnd (canon s ip f x) w) := by
  obtain ⟨h0, hs1, hdi, hip, hdr⟩ := parts_pos hP
  have hhd := parts_head hP h0
  obtain ⟨CT, hCT⟩ : ∃ CT, Hid (CT = canon s ip f x) := ⟨_, rfl⟩
  rw [← hCT.out]
  have hbw := hcl.lt h0
  have hpl := congrArg List.length hP.1
  rw [List.length_append, List.length_append, List.length_append] at hpl
  obtain ⟨y, hy⟩ : ∃ y, Hid (y = yOf x) := ⟨_, rfl⟩
  obtain ⟨fd, hfd⟩ : ∃ fd, Hid (fd = fdText f) := ⟨_, rfl⟩
  obtain ⟨G, hG⟩ : ∃ G, Hid (G = ip ++ fd) := ⟨_, rfl⟩
  obtain ⟨K, hK⟩ : ∃ K, Hid (K = s.length + (ip.length + f.length)) := ⟨_, rfl⟩
  obtain ⟨FD, hFD⟩ : ∃ FD, Hid (FD = fd.length) := ⟨_, rfl⟩
  obtain ⟨S0, hS0⟩ : ∃ S0, Hid (S0 = s.length) := ⟨_, rfl⟩
  have hS1 : S0 ≤ 1 := by rw [hS0.out]; exact hs1
  have hSl : S0 ≤ l.length := by rw [hS0.out]; omega
  obtain ⟨hg1, hg2, hg3⟩ := gat_parts hdi hP.2.2.2.1 hP.2.2.2.2
  rw [← hdr, ← hS0.out] at hg1 hg2 hg3
  have HG0 : Hid (G = [] ++ gatD (l.drop S0) ∧ FD = 0 + gatF (l.drop S0) false ∧ K = S0 + gatK (l.drop S0)) := by
    refine ⟨?_, ?_, ?_⟩
    · rw [hg1, hG.out, hfd.out]; rfl
    · rw [hg2, hFD.out, hfd.out, Nat.zero_add]
    · rw [hg3, hK.out, hS0.out]
  have hKl : K ≤ l.length := by rw [hK.out]; omega
  have hFl : FD ≤ l.length := by
    have : (fdText f).length ≤ f.length := by unfold fdText; rw [List.length_drop]; omega
    rw [hFD.out, hfd.out]; omega
  obtain ⟨NG, hNG⟩ : ∃ NG, Hid (NG = decide (s = [45])) := ⟨_, rfl⟩
  have HP := hide hP
  have HC := hide hcl
  have HPL := hide hpl
  have HHD := hide hhd
  obtain ⟨x0, hx0, HX0⟩ : ∃ x : Nat, w.cell? ⟨b, off, none⟩ = some (.int .u8 (x : Int)) ∧ Hid (x = (l[0]).toNat) := ⟨(l[0]).toNat, hcl 0 h0, rfl⟩
  have h0z : (0 : Int) < (l.length : Int) := by omega
  clear hP hcl hpl hg1 hg2 hg3 hdr hs1 hhd
  go_enter Tryd.func10, Tryd.ntmps10
  go_upto_region 2 with fail
  go_cut [4] (fun nv wx => nv = .bool NG ∧ w = wx)
  case first =>
    as_aux_lemma =>
      by_cases e45 : x0 = 45
      · have : NG = true := by rw [hNG.out]; exact decide_eq_true ((unhide HHD).1 (UInt8.toNat_inj.1 (by rw [← HX0.out, e45]; rfl)))
        subst e45 this
        go_wp2_with fail
        go_meet
        case rel => exact ⟨rfl, rfl⟩
      · have : NG = false := by rw [hNG.out]; exact decide_eq_false (fun e => e45 (by rw [HX0.out, (unhide HHD).2 e]; rfl))
        have h45 : ((x0 : Int) == 45) = false := beq_eq_false_iff_ne.2 (by omega)
        subst this
        go_wp2_with fail
        go_meet
        case rel => exact ⟨rfl, rfl⟩
  case rest =>
  obtain ⟨rfl, rfl⟩ := hcut
  go_upto_if 21 with fail
  go_cut [3] (fun iv wx => iv = .int .i64 (S0 : Nat) ∧ w = wx)
  case first =>
    as_aux_lemma =>
      rcases (unhide HP).2.1 with e | e
      · have : NG = false := by rw [hNG.out, e]; rfl
        have e0 : S0 = 0 := by rw [hS0.out, e]; rfl
        subst this e0
        go_wp2_with fail
        go_meet
        case rel => exact ⟨rfl, rfl⟩
      · have : NG = true := by rw [hNG.out, e]; rfl
        have e0 : S0 = 1 := by rw [hS0.out, e]; rfl
        subst this e0
        go_wp2_with fail
        go_meet
        case rel => exact ⟨rfl, rfl⟩
  case rest =>
  obtain ⟨rfl, rfl⟩ := hcut
  have hmk := make_room l.length (by omega)
  obtain ⟨ROW, hROW⟩ : ∃ ROW, Hid (ROW = madeCells #[Value.int .u8 0] l.length) := ⟨_, rfl⟩
  have HR0 : Hid (RowAt (w.alloc (.cells ROW 5)) w.heap.size l.length []) := by
    rw [hROW.out]
    exact ⟨_, World.rowIs_made w (.int .u8 0) l.length 5, by simp, fun j hj => by simp at hj⟩
  rw [← hROW.out] at hmk
  obtain ⟨W1, hW1⟩ : ∃ W1, Hid (W1 = w.alloc (.cells ROW 5)) := ⟨_, rfl⟩
  have hbW : Below w.heap.size w W1 := by rw [hW1.out]; exact below_new _ _
  rw [← hW1.out] at HR0
  have hmk2 : (Instr.makeSlice 22 (.int .i64 0) (.int .i64 (l.length : Int))).run Tryd.prog w = .ok (.slice (some ⟨w.heap.size, 0, none⟩) 0 l.length) W1 := by rw [hW1.out]; exact hmk w
  clear hmk hW1
  obtain ⟨g, hg⟩ : ∃ g, Hid (g = w.heap.size) := ⟨_, rfl⟩
  rw [← hg.out] at HR0 hmk2 hbW hbw
  go_upto_block 0 with fail
  go_cut [3, 5, 6, 7, 8] (fun iv dv fv _bv _cv wx => iv = .int .i64 (K : Nat) ∧ dv = .slice (some ⟨g, 0, none⟩) G.length l.length ∧ fv = .int .i64 (FD : Nat) ∧ Hid (RowAt wx g l.length G) ∧ Below g w wx)
  case first =>
    as_aux_lemma =>
      go_wp2_with fail
      go_loopg [3, 5, 6, 7, 8] (l.length - S0) (fun gg iv dv fv bv _cv wr => ∃ (k fr : Nat) (A : List UInt8) (inF : Bool), gg = l.length - k ∧ k ≤ l.length ∧ iv = .int .i64 (k : Nat) ∧ dv = .slice (some ⟨g, 0, none⟩) A.length l.length ∧ fv = .int .i64 (fr : Nat) ∧ bv = .bool inF ∧ A.length ≤ k ∧ fr ≤ k ∧ Hid (G = A ++ gatD (l.drop k) ∧ FD = fr + gatF (l.drop k) inF ∧ K = k + gatK (l.drop k)) ∧ Hid (RowAt wr g l.length A) ∧ Below g w wr)
      case atStart => exact ⟨S0, 0, [], false, rfl, hSl, rfl, rfl, rfl, rfl, Nat.zero_le _, Nat.zero_le _, HG0, HR0, hbW⟩
      case round =>
        obtain ⟨k, fr, A, inF, rfl, hk, rfl, rfl, rfl, rfl, hAk, hfk, HGK, HR, hbr⟩ := hrel
        by_cases hlt : k < l.length
        · have hltz : (k : Int) < (l.length : Int) := by omega
          obtain ⟨v, hv, hv256, HV⟩ := (unhide HC).at_ (fun _ => hbw) hbr k hlt
          have hd := List.drop_eq_getElem_cons hlt
          have HD := hide hd
          clear hd
          by_cases h1 : v = 101
          · have hce : l[k] = 101 := UInt8.toNat_inj.1 (by rw [← HV.out, h1]; rfl)
            obtain ⟨a1, a2, a3⟩ := gat_e l[k] (l.drop (k + 1)) inF (.inl hce)
            have HF : Hid (K = k ∧ G = A ∧ FD = fr) := by
              have h3 := unhide HGK
              rw [unhide HD, a1, a2, a3, List.append_nil] at h3
              exact ⟨h3.2.2, h3.1, h3.2.1⟩
            subst h1
            clear hce a1 a2 a3 HGK
            go_wp2_with fail
            go_meet
            case rel => exact ⟨by rw [(unhide HF).1], by rw [(unhide HF).2.1], by rw [(unhide HF).2.2], by rw [(unhide HF).2.1]; exact HR, hbr⟩
          · have hn1 : ((v : Int) == 101) = false := beq_eq_false_iff_ne.2 (by omega)
            by_cases h2 : v = 69
            · have hce : l[k] = 69 := UInt8.toNat_inj.1 (by rw [← HV.out, h2]; rfl)
              obtain ⟨a1, a2, a3⟩ := gat_e l[k] (l.drop (k + 1)) inF (.inr hce)
              have HF : Hid (K = k ∧ G = A ∧ FD = fr) := by
                have h3 := unhide HGK
                rw [unhide HD, a1, a2, a3, List.append_nil] at h3
                exact ⟨h3.2.2, h3.1, h3.2.1⟩
              subst h2
              clear hce a1 a2 a3 HGK
              go_wp2_with fail
              go_meet
              case rel => exact ⟨by rw [(unhide HF).1], by rw [(unhide HF).2.1], by rw [(unhide HF).2.2], by rw [(unhide HF).2.1]; exact HR, hbr⟩
            · have hn2 : ((v : Int) == 69) = false := beq_eq_false_iff_ne.2 (by omega)
              have hne : ¬ (l[k] = 101 ∨ l[k] = 69) := by
                rintro (e | e)
                · exact h1 (by rw [HV.out, e]; rfl)
                · exact h2 (by rw [HV.out, e]; rfl)
              by_cases h3 : v = 46
              · have hce : l[k] = 46 := UInt8.toNat_inj.1 (by rw [← HV.out, h3]; rfl)
                have HGn : Hid (G = A ++ gatD (l.drop (k + 1)) ∧ FD = fr + gatF (l.drop (k + 1)) true ∧ K = (k + 1) + gatK (l.drop (k + 1))) := by
                  obtain ⟨a1, a2, a3⟩ := gat_dot (l.drop (k + 1)) inF
                  have h4 := unhide HGK
                  rw [unhide HD, hce, a1, a2, a3] at h4
                  exact ⟨h4.1, h4.2.1, by omega⟩
                subst h3
                clear hce HGK hne
                go_wp2_with fail
                go_roundg (l.length - (k + 1))
                case measure => omega
                case rel => exact ⟨k + 1, fr, A, true, rfl, by omega, by go_num, rfl, rfl, rfl, by omega, by omega, HGn, HR, hbr⟩
              · have hn3 : ((v : Int) == 46) = false := beq_eq_false_iff_ne.2 (by omega)
                have hne2 : l[k] ≠ 46 := fun e => h3 (by rw [HV.out, e]; rfl)
                have HGn : Hid (G = (A ++ [l[k]]) ++ gatD (l.drop (k + 1)) ∧ FD = (fr + (if inF then 1 else 0)) + gatF (l.drop (k + 1)) inF ∧ K = (k + 1) + gatK (l.drop (k + 1))) := by
                  obtain ⟨a1, a2, a3⟩ := gat_one l[k] (l.drop (k + 1)) inF hne hne2
                  have h4 := unhide HGK
                  rw [unhide HD, a1, a2, a3] at h4
                  refine ⟨by rw [h4.1]; simp, by rw [h4.2.1]; omega, by omega⟩
                have HNA : Hid (CellsL (wr.alloc (.cells #[.int .u8 (v : Int)] 5)) wr.heap.size 0 [l[k]]) := byte_new wr l[k] v HV.out
                have HRA : Hid (RowAt (wr.alloc (.cells #[.int .u8 (v : Int)] 5)) g l.length A) := (unhide HR).alloc _
                have hgr : g ≤ wr.heap.size := by rw [hg.out]; exact hbr.size
                have hbr2 : Below g w (wr.alloc (.cells #[.int .u8 (v : Int)] 5)) := hbr.alloc hgr _
                clear hne hne2 HGK HR h1 h2 h3
                go_upto_region 15 with (first | (at_builtin; refine append_fits rfl _ _ rfl g A.length l.length A rfl rfl (unhide HRA) wr.heap.size 0 1 1 [l[k]] rfl rfl (unhide HNA) (by omega) ?_; intro w2 hr2 hb2) | fail)
                have HR2 := hide hr2
                have hb02 : Below g w w2 := hbr2.trans hb2
                clear hr2 hb2 HNA HRA hbr2
                cases inF with
                | true =>
                  go_wp2_with fail
                  go_roundg (l.length - (k + 1))
                  case measure => omega
                  case rel => exact ⟨k + 1, fr + 1, A ++ [l[k]], true, rfl, by omega, by go_num, by rw [List.length_append]; rfl, by go_num, rfl, by rw [List.length_append]; exact Nat.succ_le_succ hAk, by omega, HGn, HR2, hb02⟩
                | false =>
                  go_wp2_with fail
                  go_roundg (l.length - (k + 1))
                  case measure => omega
                  case rel => exact ⟨k + 1, fr, A ++ [l[k]], false, rfl, by omega, by go_num, by rw [List.length_append]; rfl, rfl, rfl, by rw [List.length_append]; exact Nat.succ_le_succ hAk, by omega, HGn, HR2, hb02⟩
        · obtain rfl : k = l.length := by omega
          have HF : Hid (K = l.length ∧ G = A ∧ FD = fr) := by
            have h3 := unhide HGK
            rw [List.drop_length, show gatD [] = [] from rfl, show gatF [] inF = 0 from rfl, show gatK [] = 0 from rfl, List.append_nil] at h3
            exact ⟨h3.2.2, h3.1, h3.2.1⟩
          clear HGK
          go_wp2_with fail
          go_meet
          case rel => exact ⟨by rw [(unhide HF).1], by rw [(unhide HF).2.1], by rw [(unhide HF).2.2], by rw [(unhide HF).2.1]; exact HR, hbr⟩
  case rest =>
  obtain ⟨rfl, rfl, rfl, HR1, hb1⟩ := hcut
  obtain ⟨w1, hw1⟩ : ∃ w1, w1 = wc := ⟨_, rfl⟩
  subst hw1
  have HYP : Hid ((y = [] ∧ x = []) ∨ (ExT y ∧ K + 1 + y.length = l.length ∧ l.drop (K + 1) = y)) := by
    obtain ⟨e1, e2, e3, e4, e5⟩ := unhide HP
    rcases e5 with rfl | ⟨e, y', rfl, he, hy'⟩
    · exact .inl ⟨hy.out, rfl⟩
    · have e6 : y = y' := hy.out
      subst e6
      refine .inr ⟨hy', ?_, ?_⟩
      · have := unhide HPL
        rw [List.length_cons] at this
        rw [hK.out]
        omega
      · rw [hK.out, e1, show s ++ (ip ++ (f ++ e :: y)) = (s ++ (ip ++ (f ++ [e]))) ++ y by simp, List.drop_left' (by simp; omega)]
  clear HG0 HR0 hmk2 hbW hROW
  go_upto_if 53 with fail
  go_cut [9] (fun xv wx => ∃ py cy, xv = .slice py y.length cy ∧ Hid (At w1 py y ∧ ((y = [] ∧ py = none ∧ cy = 0) ∨ ExT y)) ∧ y.length ≤ cy ∧ cy ≤ 1073741824 ∧ w1 = wx)
  case first =>
    as_aux_lemma =>
      rcases unhide HYP with ⟨e1, e2⟩ | ⟨e1, e2, e3⟩
      · have hnk : ¬ ((K : Int) < (l.length : Int)) := by
          have := unhide HPL
          rw [e2, List.length_nil] at this
          rw [hK.out]
          omega
        subst e1
        clear e2
        go_wp2_with fail
        go_meet
        case rel => exact ⟨none, 0, rfl, ⟨(fun h => by simp at h), .inl (by simp)⟩, Nat.zero_le _, by omega, rfl⟩
      · have hy0 : 0 < y.length := by
          obtain ⟨sg, d, rfl, _, hd, _⟩ := e1
          have := List.length_pos_iff.2 hd
          rw [List.length_append]
          omega
        have hkz : (K : Int) < (l.length : Int) := by omega
        have hK1 : (K : Int) + 1 ≤ (l.length : Int) := by omega
        have hK2 : K + 1 ≤ l.length := by omega
        have hK3 : K + 1 ≤ c := by omega
        have hck : ¬ (c = K + 1) := by omega
        have HCy : Hid (CellsL w1 b (off + (K + 1)) y) := by
          have := ((unhide HC).later (fun _ => hbw) hb1).drop (K + 1)
          rw [e3] at this
          exact this
        have HE2 := hide e2
        have HE1 := hide e1
        clear e1 e2 e3
        go_wp2_with fail
        go_meet
        case rel => exact ⟨some ⟨b, off + (K + 1), none⟩, c - (K + 1), by rw [show y.length = l.length - (K + 1) by have := unhide HE2; omega], ⟨fun _ => ⟨_, _, rfl, unhide HCy⟩, .inr (unhide HE1)⟩, by have := unhide HE2; omega, by omega, rfl⟩
  case rest =>
  obtain ⟨py, cy, rfl, HYA, hyc, hyc2, rfl⟩ := hcut
  have hGp : 0 < G.length := by rw [hG.out, List.length_append]; omega
  have hGl : G.length ≤ l.length := by obtain ⟨_, _, h, _⟩ := unhide HR1; exact h
  have hgl : g < w1.heap.size := by obtain ⟨_, h, _⟩ := unhide HR1; exact h.lt
  obtain ⟨T, hT⟩ : ∃ T, Hid (T = tL G) := ⟨_, rfl⟩
  have hTl : T.length ≤ l.length := by have := tL_len G; rw [hT.out]; omega
  have HTz := hide (trimz_row g 0 l.length G hGp hGl (by omega) w1 (unhide HR1).cells)
  rw [← hT.out] at HTz
  have hb1' : Below w.heap.size w w1 := by rw [← hg.out]; exact hb1
  clear HYP HR1 hb1
  go_wp2_with fail
  refine (unhide HTz).mono ?_
  rintro e w2 ⟨o1, c1, rfl, HTC, ht1, ht2, rfl⟩
  clear HTz
  by_cases hT0 : T = []
  · have HC0 : Hid (CT = [48]) := by
      rw [Hid, hCT.out]
      exact canon_zero _ _ _ _ (by rw [← hfd.out, ← core_alt, ← hG.out, ← hT.out, hT0]; rfl)
    subst hT0
    go_wp2_with fail
    go_ret
    exact canEnd_mk [48] (unhide HC0) _ 1 1 rfl (new_at w1 48) (hb1'.trans ((below_new w1 _).mono hb1'.size))
  · have hTp : 0 < T.length := List.length_pos_iff.2 hT0
    have hne : ((T.length : Int) == 0) = false := beq_eq_false_iff_ne.2 (by omega)
    obtain ⟨C, hC⟩ : ∃ C, Hid (C = tR T) := ⟨_, rfl⟩
    have HCne : Hid (C ≠ []) := by rw [Hid, hC.out, hT.out]; exact core_ne (by rw [← hT.out]; exact hT0)
    have hCl : C.length ≤ T.length := by rw [hC.out]; exact tR_len T
    obtain ⟨TR, hTR⟩ : ∃ TR, Hid (TR = T.length - C.length) := ⟨_, rfl⟩
    have hTRl : TR ≤ T.length := by rw [hTR.out]; omega
    clear hT0
    go_upto_block 2 with fail
    go_cut [10] (fun tv wx => tv = .int .i64 (TR : Nat) ∧ w1 = wx)
    case first =>
      as_aux_lemma =>
        go_wp2_with fail
        go_loopg [10] T.length (fun gg tv wr => ∃ t : Nat, gg = T.length - t ∧ t ≤ T.length ∧ tv = .int .i64 (t : Nat) ∧ Hid (C = tR (T.take (T.length - t))) ∧ w1 = wr)
        case atStart => exact ⟨0, rfl, Nat.zero_le _, rfl, by rw [Hid, Nat.sub_zero, List.take_length]; exact hC.out, rfl⟩
        case round =>
          obtain ⟨t, rfl, ht, rfl, HCt, rfl⟩ := hrel
          by_cases hlt : t < T.length
          · have hltz : (t : Int) < (T.length : Int) := by omega
            obtain ⟨j, hj⟩ : ∃ j, Hid (j = T.length - 1 - t) := ⟨_, rfl⟩
            have hjl : j < T.length := by rw [hj.out]; omega
            have hjz : (T.length : Int) - 1 - (t : Int) = (j : Int) := by have := hj.out; omega
            obtain ⟨v, hv, HV⟩ : ∃ v : Nat, w1.cell? ⟨g, o1 + j, none⟩ = some (.int .u8 (v : Int)) ∧ Hid (v = T[j].toNat) := ⟨_, (unhide HTC) j hjl, rfl⟩
            have hj1 : T.length - t = j + 1 := by rw [hj.out]; omega
            have hj2 : T.length - (t + 1) = j := by rw [hj.out]; omega
            have HJ1 := hide hj1
            have HJ2 := hide hj2
            clear hj1 hj2
            by_cases h48 : v = 48
            · have HN : Hid (C = tR (T.take (T.length - (t + 1)))) := by
                rw [Hid, HCt.out, unhide HJ1, unhide HJ2]
                exact tR_more T j hjl (UInt8.toNat_inj.1 (by rw [← HV.out, h48]; rfl))
              subst h48
              go_wp2_with fail
              go_roundg (T.length - (t + 1))
              case measure => omega
              case rel => exact ⟨t + 1, rfl, by omega, by go_num, HN, rfl⟩
            · have hn48 : ((v : Int) == 48) = false := beq_eq_false_iff_ne.2 (by omega)
              have HTE : Hid (t = TR) := by
                have h3 := HCt.out
                rw [unhide HJ1, tR_stop T j hjl (fun e => h48 (by rw [HV.out, e]; rfl))] at h3
                have h4 := congrArg List.length h3
                rw [List.length_take] at h4
                rw [Hid, hTR.out, h4, hj.out]
                omega
              go_wp2_with fail
              go_meet
              case rel => exact ⟨by rw [HTE.out], rfl⟩
          · obtain rfl : t = T.length := by omega
            refine absurd ?_ (unhide HCne)
            rw [HCt.out, Nat.sub_self]
            rfl
    case rest =>
    obtain ⟨rfl, rfl⟩ := hcut
    have hCLz : (T.length : Int) - (TR : Int) = (C.length : Int) := by rw [hTR.out]; omega
    have hCc : C.length ≤ c1 := by omega
    have HCore : Hid (C = coreOf ip fd) := by rw [Hid, hC.out, hT.out, hG.out]; exact core_alt ip fd
    obtain ⟨SH, hSH⟩ : ∃ SH, Hid (SH = shiftOf ip fd) := ⟨_, rfl⟩
    have hshz : (TR : Int) - (FD : Int) = SH := by
      have h3 := shift_alt ip fd (by rw [← HCore.out]; exact unhide HCne)
      rw [← HCore.out, ← hG.out, ← hT.out, ← hFD.out, ← hSH.out] at h3
      rw [hTR.out]
      omega
    obtain ⟨E, hE⟩ : ∃ E, Hid (E = expText (expOf y + SH)) := ⟨_, rfl⟩
    have HCT : Hid (CT = (s ++ C) ++ E) := by
      rw [Hid, hCT.out]
      unfold canon canonOf
      rw [← hfd.out, ← hy.out, ← HCore.out, if_neg (unhide HCne), ← hSH.out, ← hE.out, List.append_assoc]
    have hEl : E.length ≤ 600000 := by
      have h4 := parts_len (unhide HP)
      have h3 := canon_len (s := s) (ip := ip) (f := f) (x := x) (unhide HP).2.1 (unhide HP).2.2.2.2 (by omega)
      rw [← hCT.out, unhide HCT, List.length_append] at h3
      omega
    have HTK : Hid (T.take C.length = C) := by
      obtain ⟨k, e, _⟩ := tR_split T
      rw [← hC.out] at e
      rw [Hid, e, List.take_left' rfl]
    have hyl2 : y.length ≤ 524288 := by
      have h3 := unhide HPL
      have h4 : (yOf x).length ≤ x.length := by unfold yOf; rw [List.length_drop]; omega
      rw [hy.out]
      omega
    have hmk := make_room (C.length + 1) (by omega)
    rw [Int.natCast_add] at hmk
    obtain ⟨ROW, hROW⟩ : ∃ ROW, Hid (ROW = madeCells #[Value.int .u8 0] (C.length + 1)) := ⟨_, rfl⟩
    have HR0 : Hid (RowAt (w1.alloc (.cells ROW 5)) w1.heap.size (C.length + 1) []) := by
      rw [hROW.out]
      exact ⟨_, World.rowIs_made w1 (.int .u8 0) (C.length + 1) 5, by simp, fun j hj => by simp at hj⟩
    rw [← hROW.out] at hmk
    obtain ⟨W2, hW2⟩ : ∃ W2, Hid (W2 = w1.alloc (.cells ROW 5)) := ⟨_, rfl⟩
    have hbW : Below w1.heap.size w1 W2 := by rw [hW2.out]; exact below_new _ _
    rw [← hW2.out] at HR0
    have hmk2 : (Instr.makeSlice 22 (.int .i64 0) (.int .i64 ((C.length : Int) + 1))).run Tryd.prog w1 = .ok (.slice (some ⟨w1.heap.size, 0, none⟩) 0 (C.length + 1)) W2 := by rw [hW2.out]; exact hmk w1
    obtain ⟨g2, hg2⟩ : ∃ g2, Hid (g2 = w1.heap.size) := ⟨_, rfl⟩
    rw [← hg2.out] at HR0 hmk2 hbW hgl
    have HS2 := hide (unhide HP).2.1
    have HNG : Hid (NG = decide (s = [45])) := hNG
    clear hmk hW2 hROW HCore hSH hCT
    go_upto_if 91 with fail
    go_cut [11] (fun ov wx => ov = .slice (some ⟨g2, 0, none⟩) S0 (C.length + 1) ∧ Hid (RowAt wx g2 (C.length + 1) s) ∧ Below g2 w1 wx)
    case first =>
      as_aux_lemma =>
        rcases unhide HS2 with e | e
        · have : NG = false := by rw [HNG.out, e]; rfl
          have e0 : S0 = 0 := by rw [hS0.out, e]; rfl
          have HRs : Hid (RowAt W2 g2 (C.length + 1) s) := by rw [e]; exact HR0
          subst this e0
          clear e
          go_wp2_with fail
          go_meet
          case rel => exact ⟨rfl, HRs, hbW⟩
        · have : NG = true := by rw [HNG.out, e]; rfl
          have e0 : S0 = 1 := by rw [hS0.out, e]; rfl
          have HE := hide e
          have HRA : Hid (RowAt (W2.alloc (.cells #[bv 45] 5)) g2 (C.length + 1) []) := (unhide HR0).alloc _
          have hgW : g2 ≤ W2.heap.size := by rw [hg2.out]; exact hbW.size
          have hbW2 : Below g2 w1 (W2.alloc (.cells #[bv 45] 5)) := hbW.alloc hgW _
          subst this e0
          clear e
          go_wp2_with (first | (at_builtin; refine append_fits rfl _ _ rfl g2 0 (C.length + 1) [] rfl rfl (unhide HRA) W2.heap.size 0 1 1 [45] rfl rfl (by obtain ⟨_, _, e, hcc⟩ := new_at W2 45 (by simp); cases e; exact hcc) (by omega) ?_; intro w4 hr4 hb4) | fail)
          have HR4 : Hid (RowAt w4 g2 (C.length + 1) s) := by rw [unhide HE]; exact hr4
          have hb14 : Below g2 w1 w4 := hbW2.trans hb4
          clear hr4 hb4
          go_wp2_with fail
          go_meet
          case rel => exact ⟨rfl, HR4, hb14⟩
    case rest =>
    obtain ⟨rfl, HR3, hb3⟩ := hcut
    obtain ⟨w5, hw5⟩ : ∃ w5, w5 = wc := ⟨_, rfl⟩
    subst hw5
    have HCd : Hid (CellsL w5 g o1 C) := by
      have h3 := ((unhide HTC).take C.length)
      rw [unhide HTK] at h3
      exact h3.later (fun _ => hgl) hb3
    have hsl : s.length = S0 := hS0.out.symm
    have HSL := hide hsl
    clear hsl hmk2 hbW HR0
    go_upto_region 31 with (first | (at_builtin; refine append_fits rfl _ _ rfl g2 S0 (C.length + 1) s rfl (unhide HSL) (unhide HR3) g o1 C.length c1 C rfl rfl (unhide HCd) (by omega) ?_; intro w6 hr6 hb6) | fail)
    have HC6 : Hid (CellsL w6 g2 0 (s ++ C)) := hr6.cells
    have hb16 : Below w1.heap.size w1 w6 := by rw [← hg2.out]; exact hb3.trans hb6
    have hbw6 : Below w.heap.size w w6 := hb1'.trans (hb16.mono hb1'.size)
    have hg6 : g2 < w6.heap.size := by obtain ⟨_, h, _⟩ := hr6; exact h.lt
    have HY6 : Hid (At w6 py y) := fun h0 => by
      obtain ⟨b', off', e, hcl⟩ := (unhide HYA).1 h0
      exact ⟨b', off', e, hcl.later hcl.lt hb16⟩
    have HSFX := hide (sfx_call py cy y (unhide HYA).2 hyc hyc2 (by omega) SH (by omega) (by omega) w6 (unhide HY6))
    unfold SfxEnd at HSFX
    rw [← hE.out] at HSFX
    clear hr6 hb6 HR3 HCd HTC hb3 HY6 HYA
    have HSC : Hid ((s ++ C).length = S0 + C.length) := by rw [Hid, List.length_append, unhide HSL]
    go_wp2_with fail
    refine (unhide HSFX).mono ?_
    rintro e w7 ⟨p7, c7, rfl, HA7, hb7⟩
    have HC7 : Hid (CellsL w7 g2 0 (s ++ C)) := (unhide HC6).later (fun _ => hg6) hb7
    have HCAT := hide (cat_call (some ⟨g2, 0, none⟩) p7 (C.length + 1) c7 (s ++ C) E (by rw [unhide HSC]; omega) w7 (fun _ => ⟨_, _, rfl, unhide HC7⟩) (unhide HA7))
    have HLN : Hid (S0 + C.length + E.length = ((s ++ C) ++ E).length) := by rw [Hid, List.length_append, unhide HSC]
    rw [unhide HSC] at HCAT
    clear HC6 HC7 HA7 HSFX
    go_wp2_with fail
    refine (unhide HCAT).mono ?_
    rintro e w8 ⟨rfl, HC8, hg8, hb8⟩
    have hb08 : Below w.heap.size w w8 := hbw6.trans ((hb7.mono hbw6.size).trans (hb8.mono (Nat.le_trans hbw6.size hb7.size)))
    clear HCAT
    go_wp2_with fail
    go_ret
    exact canEnd_mk ((s ++ C) ++ E) (unhide HCT) _ _ _ (unhide HLN) (fun _ => ⟨_, _, rfl, unhide HC8⟩) hb08
end Go.Proofs.Qxb6606399aDoor
