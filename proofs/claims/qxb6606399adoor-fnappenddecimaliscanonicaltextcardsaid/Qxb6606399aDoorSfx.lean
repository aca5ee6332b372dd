import Derived.Test.Qxb6606399aDoorNeg
import Derived.Test.Qxb6606399aDoorMagsE
namespace Go.Proofs.Qxb6606399aDoor
open Go.RowKit

theorem trimz_call (p : Option Addr) (c : Nat) (l : List UInt8) (h0 : l = [] → p = none ∧ c = 0) (hl : l.length ≤ c) (hc : c ≤ 1073741824) (w : World) (hA : At w p l) :
    Calls Tryd.prog 16 #[.slice p l.length c] w fun e w' => ∃ p' c', e = .returned (.slice p' (tL l).length c') ∧ Hid (At w p' (tL l)) ∧ (tL l).length ≤ c' ∧ c' ≤ c ∧ w = w' := by
  by_cases h : l = []
  · obtain ⟨rfl, rfl⟩ := h0 h
    subst h
    exact (trimz_nil w).mono fun e w' ⟨he, hw⟩ => ⟨none, 0, he, (fun h => by simp [tL_nil] at h), Nat.le_refl _, Nat.le_refl _, hw⟩
  · have hp : 0 < l.length := List.length_pos_iff.2 h
    obtain ⟨b, off, rfl, hcl⟩ := hA hp
    exact (trimz_row b off c l hp hl hc w hcl).mono fun e w' ⟨o', c', he, HC, h1, h2, hw⟩ => ⟨_, c', he, (fun _ => ⟨_, _, rfl, unhide HC⟩), h1, h2, hw⟩
theorem expOf_sign (sg d : List UInt8) (hs : sg = [] ∨ sg = [43] ∨ sg = [45]) (hd : AllDig d) : expOf (sg ++ d) = sgv (decide (sg = [45])) (valN d) := by
  unfold expOf
  rw [expDigits_sign sg d hs hd]
  rcases hs with rfl | rfl | rfl
  · cases d with
    | nil => simp [sgv]
    | cons x r =>
      have := (digB_iff x).1 hd.head
      rw [if_neg (fun e => by
        have e' : x = 45 := by simpa using e
        rw [e'] at this
        exact absurd this.1 (by decide))]
      simp [sgv]
  · simp [sgv]
  · simp [sgv]
theorem valN_tL (l : List UInt8) (hd : AllDig l) : valN (tL l) = valN l := by
  rw [mag_tL l hd]; exact (mag_facts _).2.2

/-- What exponentSuffix hands back. -/
def SfxEnd (S : Int) (w : World) (e : Ending) (w' : World) : Prop :=
  ∃ p' c', e = .returned (.slice p' (expText S).length c') ∧ Hid (At w' p' (expText S)) ∧ Below w.heap.size w w'
theorem sfxEnd_mk {S : Int} {w w' : World} (T : List UInt8) (hT : expText S = T) (p' : Option Addr) (n c' : Nat) (hn : n = T.length) (hA : At w' p' T) (hb : Below w.heap.size w w') : SfxEnd S w (.returned (.slice p' n c')) w' := by
  subst hT
  subst hn
  exact ⟨p', c', rfl, hA, hb⟩

set_option maxRecDepth 100000 in
set_option maxHeartbeats 4000000 in
theorem sfx_call (p : Option Addr) (c : Nat) (y : List UInt8) (hy : (y = [] ∧ p = none ∧ c = 0) ∨ ExT y) (hl : y.length ≤ c) (hc : c ≤ 1073741824) (hy2 : y.length ≤ 2097152) (sh : Int) (hs1 : -4194304 ≤ sh) (hs2 : sh ≤ 4194304) (w : World) (hA : At w p y) :
    Calls Tryd.prog 17 #[.slice p y.length c, .int .i64 sh] w (SfxEnd (expOf y + sh) w) := by
  have HA := hide hA
  have HY := hide hy
  clear hA hy
  obtain ⟨S, hS⟩ : ∃ S, Hid (S = expOf y + sh) := ⟨_, rfl⟩
  rw [← hS.out]
  go_enter Tryd.func17, Tryd.ntmps17
  obtain ⟨CE, hCE⟩ : ∃ CE, Hid (CE = decide (y.head? = some 43 ∨ y.head? = some 45)) := ⟨_, rfl⟩
  go_upto_region 3 with fail
  go_cut [27] (fun cv wx => cv = .bool CE ∧ w = wx)
  case first =>
    as_aux_lemma =>
      by_cases h0 : y = []
      · have : CE = false := by rw [hCE.out, h0]; rfl
        subst h0 this
        go_wp2_with fail
        go_meet
        case rel => exact ⟨rfl, rfl⟩
      · have hy0 : 0 < y.length := List.length_pos_iff.2 h0
        obtain ⟨b, off, rfl, hcl⟩ := (unhide HA) hy0
        obtain ⟨x0, hx0, HX0⟩ : ∃ x : Nat, w.cell? ⟨b, off, none⟩ = some (.int .u8 (x : Int)) ∧ Hid (x = (y[0]).toNat) := ⟨(y[0]).toNat, hcl 0 hy0, rfl⟩
        have hh : y.head? = some y[0] := by rw [List.head?_eq_getElem?, List.getElem?_eq_getElem hy0]
        have hyz : (0 : Int) < (y.length : Int) := by omega
        clear hcl h0
        by_cases e43 : x0 = 43
        · have : CE = true := by
            rw [hCE.out]
            exact decide_eq_true (.inl (by rw [hh]; exact congrArg some (UInt8.toNat_inj.1 (by rw [← HX0.out, e43]; rfl))))
          subst e43 this
          clear hh
          go_wp2_with fail
          go_meet
          case rel => exact ⟨rfl, rfl⟩
        · have h43 : ((x0 : Int) == 43) = false := beq_eq_false_iff_ne.2 (by omega)
          by_cases e45 : x0 = 45
          · have : CE = true := by
              rw [hCE.out]
              exact decide_eq_true (.inr (by rw [hh]; exact congrArg some (UInt8.toNat_inj.1 (by rw [← HX0.out, e45]; rfl))))
            subst e45 this
            clear hh
            go_wp2_with fail
            go_meet
            case rel => exact ⟨rfl, rfl⟩
          · have h45 : ((x0 : Int) == 45) = false := beq_eq_false_iff_ne.2 (by omega)
            have : CE = false := by
              rw [hCE.out]
              refine decide_eq_false ?_
              rw [hh]
              rintro (e | e)
              · exact e43 (by rw [HX0.out, Option.some.inj e]; rfl)
              · exact e45 (by rw [HX0.out, Option.some.inj e]; rfl)
            subst this
            clear hh
            go_wp2_with fail
            go_meet
            case rel => exact ⟨rfl, rfl⟩
  case rest =>
  obtain ⟨rfl, rfl⟩ := hcut
  go_upto_if 27 with fail
  go_cut [5, 6] (fun nv dv wx => ∃ (ng : Bool) (p1 : Option Addr) (c1 : Nat) (D : List UInt8), nv = .bool ng ∧ dv = .slice p1 D.length c1 ∧ Hid (At w p1 D ∧ (D = [] → p1 = none ∧ c1 = 0) ∧ AllDig D ∧ expOf y = sgv ng (valN D)) ∧ D.length ≤ c1 ∧ c1 ≤ 1073741824 ∧ D.length ≤ 2097152 ∧ w = wx)
  case first =>
    as_aux_lemma =>
      rcases unhide HY with ⟨rfl, rfl, rfl⟩ | ⟨sg, d, he, hsg, hdn, hda⟩
      · obtain rfl : CE = false := hCE.out
        go_wp2_with fail
        go_meet
        case rel => exact ⟨false, none, 0, [], rfl, rfl, ⟨fun h => by simp at h, fun _ => ⟨rfl, rfl⟩, .nil, rfl⟩, by simp, by omega, by simp, rfl⟩
      · have hd0 : 0 < d.length := List.length_pos_iff.2 hdn
        have hE := expOf_sign sg d hsg hda
        rw [← he] at hE
        have HE := hide he
        have HEX := hide hE
        have HDA := hide hda
        clear he hE hda hdn
        have hyl : d.length ≤ y.length := by rw [HE.out, List.length_append]; omega
        obtain ⟨b, off, rfl, hcl⟩ := (unhide HA) (by omega)
        have hy0 : (0 : Int) < (y.length : Int) := by omega
        rcases hsg with rfl | rfl | rfl
        · have hyd : y = d := HE.out
          subst hyd
          obtain ⟨x0, hx0, HX0⟩ : ∃ x : Nat, w.cell? ⟨b, off, none⟩ = some (.int .u8 (x : Int)) ∧ Hid (x = (y[0]).toNat) := ⟨(y[0]).toNat, hcl 0 hd0, rfl⟩
          have hdig := (digB_iff _).1 ((unhide HDA) y[0] (List.getElem_mem hd0))
          rw [← HX0.out] at hdig
          have hce : CE = false := by
            rw [hCE.out]
            refine decide_eq_false ?_
            rw [List.head?_eq_getElem?, List.getElem?_eq_getElem hd0]
            rintro (e | e)
            · rw [HX0.out, Option.some.inj e] at hdig; exact absurd hdig.1 (by decide)
            · rw [HX0.out, Option.some.inj e] at hdig; exact absurd hdig.1 (by decide)
          subst hce
          clear hcl
          go_wp2_with fail
          go_meet
          case rel => exact ⟨false, some ⟨b, off, none⟩, c, y, rfl, rfl, ⟨unhide HA, fun e => absurd hd0 (by rw [e]; simp), unhide HDA, by simpa using unhide HEX⟩, hl, hc, hy2, rfl⟩
        · have hyl2 : y.length = d.length + 1 := by rw [HE.out]; rfl
          have HYL := hide hyl2
          obtain ⟨x0, hx0, HX0⟩ : ∃ x : Nat, w.cell? ⟨b, off, none⟩ = some (.int .u8 (x : Int)) ∧ Hid (x = (y[0]'(by omega)).toNat) := ⟨_, hcl 0 (by omega), rfl⟩
          have e0 : x0 = 43 := by rw [HX0.out]; simp only [HE.out]; rfl
          have HCD : Hid (CellsL w b (off + 1) d) := by
            have := hcl.drop 1
            rw [HE.out] at this
            exact this
          have hc1 : ¬ (c = 1) := by omega
          have hlow : (1 : Int) ≤ (y.length : Int) := by omega
          obtain rfl : CE = true := by rw [hCE.out, HE.out]; rfl
          subst e0
          clear hcl HX0
          clear hyl2
          go_wp2_with fail
          go_meet
          case rel => exact ⟨false, some ⟨b, off + 1, none⟩, c - 1, d, rfl, by rw [show d.length = y.length - 1 by rw [unhide HYL]; omega], ⟨fun _ => ⟨_, _, rfl, unhide HCD⟩, fun e => absurd hd0 (by rw [e]; simp), unhide HDA, by simpa using unhide HEX⟩, by have := unhide HYL; omega, by omega, by omega, rfl⟩
        · have hyl2 : y.length = d.length + 1 := by rw [HE.out]; rfl
          have HYL := hide hyl2
          obtain ⟨x0, hx0, HX0⟩ : ∃ x : Nat, w.cell? ⟨b, off, none⟩ = some (.int .u8 (x : Int)) ∧ Hid (x = (y[0]'(by omega)).toNat) := ⟨_, hcl 0 (by omega), rfl⟩
          have e0 : x0 = 45 := by rw [HX0.out]; simp only [HE.out]; rfl
          have HCD : Hid (CellsL w b (off + 1) d) := by
            have := hcl.drop 1
            rw [HE.out] at this
            exact this
          have hc1 : ¬ (c = 1) := by omega
          have hlow : (1 : Int) ≤ (y.length : Int) := by omega
          obtain rfl : CE = true := by rw [hCE.out, HE.out]; rfl
          subst e0
          clear hcl HX0
          clear hyl2
          go_wp2_with fail
          go_meet
          case rel => exact ⟨true, some ⟨b, off + 1, none⟩, c - 1, d, rfl, by rw [show d.length = y.length - 1 by rw [unhide HYL]; omega], ⟨fun _ => ⟨_, _, rfl, unhide HCD⟩, fun e => absurd hd0 (by rw [e]; simp), unhide HDA, by simpa using unhide HEX⟩, by have := unhide HYL; omega, by omega, by omega, rfl⟩
  case rest =>
    obtain ⟨ng, p1, c1, D, rfl, rfl, HD, hd1, hd2, hd3, rfl⟩ := hcut
    have htl : (tL D).length ≤ D.length := by
      rw [mag_tL D (unhide HD).2.2.1]
      refine mag_small _ _ ?_
      exact valN_lt D (unhide HD).2.2.1
    go_wp2_with fail
    refine (trimz_call p1 c1 D (unhide HD).2.1 hd1 hd2 w (unhide HD).1).mono ?_
    rintro e w1 ⟨p2, c2, rfl, HA2, hc21, hc22, rfl⟩
    go_wp2_with fail
    refine (magof_call sh (by omega) (by omega) w).mono ?_
    rintro e w2 ⟨p3, c3, rfl, HA3, hb2⟩
    have HA2' : Hid (At w2 p2 (tL D)) := fun h0 => by
      obtain ⟨b, off, e, hcl⟩ := (unhide HA2) h0
      exact ⟨b, off, e, hcl.later hcl.lt hb2⟩
    have hm7 : (mag sh.natAbs).length ≤ 7 := mag_small _ 7 (by omega)
    have HSUM := hide (sum_call ng (decide (sh < 0)) p2 p3 c2 c3 (tL D) (mag sh.natAbs) (by omega) (by omega) w2 (unhide HA2') (unhide HA3) (by rw [mag_tL D (unhide HD).2.2.1]; exact (mag_facts _).1) (mag_facts _).1 (by rw [mag_tL D (unhide HD).2.2.1]; exact (mag_facts _).2.1) (mag_facts _).2.1)
    rw [valN_tL D (unhide HD).2.2.1, (mag_facts sh.natAbs).2.2, ← (unhide HD).2.2.2, show sgv (decide (sh < 0)) sh.natAbs = sh from by
      unfold sgv
      by_cases h : sh < 0
      · rw [decide_eq_true h, if_pos rfl]; omega
      · rw [decide_eq_false h, if_neg (by simp)]; omega, ← hS.out] at HSUM
    unfold SumEnd at HSUM
    have hT := expText_mag S
    obtain ⟨M, hM⟩ : ∃ M, Hid (M = mag S.natAbs) := ⟨_, rfl⟩
    rw [← hM.out] at HSUM hT
    have HT := hide hT
    clear hT HA2 HA3 HA2' hm7 htl
    go_wp2_with fail
    refine (unhide HSUM).mono ?_
    rintro e w3 ⟨p4, c4, rfl, HA4, hc4, hc4', hb3⟩
    have hb23 : Below w.heap.size w w3 := hb2.trans (hb3.mono hb2.size)
    clear HSUM HD
    by_cases h0 : M = []
    · subst h0
      go_wp2_with fail
      go_ret
      exact sfxEnd_mk [] (by rw [unhide HT]; rfl) none 0 0 rfl (fun h => by simp at h) hb23
    · have hp : 0 < M.length := List.length_pos_iff.2 h0
      obtain ⟨b, off, rfl, hcl⟩ := (unhide HA4) hp
      have HC := hide hcl
      have hlt3 := hcl.lt hp
      have hne : ((M.length : Int) == 0) = false := beq_eq_false_iff_ne.2 (by omega)
      have HT2 : Hid (expText S = 101 :: ((if S < 0 then [45] else []) ++ M)) := by rw [Hid, unhide HT, if_neg h0]
      clear HT h0 hcl HA4
      have hmk := make_room (M.length + 2) (by omega)
      rw [Int.natCast_add] at hmk
      obtain ⟨ROW, hROW⟩ : ∃ ROW, Hid (ROW = madeCells #[Value.int .u8 0] (M.length + 2)) := ⟨_, rfl⟩
      have HR0 : Hid ((w3.alloc (.cells ROW 5)).rowIs w3.heap.size 5 (M.length + 2) (fun _ => .int .u8 0)) := by rw [hROW.out]; exact World.rowIs_made w3 (.int .u8 0) (M.length + 2) 5
      rw [← hROW.out] at hmk
      have HR1 : Hid (RowAt ((w3.alloc (.cells ROW 5)).alloc (.cells #[bv 101] 5)) w3.heap.size (M.length + 2) []) := RowAt.alloc ⟨_, unhide HR0, by simp, fun j hj => by simp at hj⟩ _
      obtain ⟨W1, hW1⟩ : ∃ W1, Hid (W1 = w3.alloc (.cells ROW 5)) := ⟨_, rfl⟩
      have hbW : Below w3.heap.size w3 W1 := by rw [hW1.out]; exact below_new _ _
      rw [← hW1.out] at HR1
      have hmk2 : (Instr.makeSlice 22 (.int .i64 0) (.int .i64 ((M.length : Int) + 2))).run Tryd.prog w3 = .ok (.slice (some ⟨w3.heap.size, 0, none⟩) 0 (M.length + 2)) W1 := by rw [hW1.out]; exact hmk w3
      clear hmk HR0 hW1
      obtain ⟨g, hg⟩ : ∃ g, Hid (g = w3.heap.size) := ⟨_, rfl⟩
      rw [← hg.out] at HR1 hmk2
      go_upto_region 13 with (first | (at_builtin; refine append_fits rfl _ _ rfl g 0 (M.length + 2) [] rfl rfl (unhide HR1) W1.heap.size 0 1 1 [101] rfl rfl (by obtain ⟨_, _, e, hcc⟩ := new_at W1 101 (by simp); cases e; exact hcc) (by omega) ?_; intro w4 hr4 hb4) | fail)
      have HR4 := hide hr4
      have hb34 : Below w3.heap.size w3 w4 := hbW.trans (((below_new W1 _).mono hbW.size).trans (by rw [← hg.out]; exact hb4))
      clear hr4 hb4 HR1 hmk2
      by_cases hneg : S < 0
      · have HR5 : Hid (RowAt (w4.alloc (.cells #[bv 45] 5)) g (M.length + 2) [101]) := (unhide HR4).alloc _
        go_upto_region 15 with (first | (at_builtin; refine append_fits rfl _ _ rfl g 1 (M.length + 2) [101] rfl rfl (unhide HR5) w4.heap.size 0 1 1 [45] rfl rfl (by obtain ⟨_, _, e, hcc⟩ := new_at w4 45 (by simp); cases e; exact hcc) (by omega) ?_; intro w5 hr5 hb5) | fail)
        have HR6 := hide hr5
        have hb35 : Below w3.heap.size w3 w5 := hb34.trans (((below_new w4 _).mono hb34.size).trans (by rw [← hg.out]; exact hb5))
        have HC5 : Hid (CellsL w5 b off M) := (unhide HC).later (fun _ => hlt3) hb35
        clear hr5 hb5 HR5 HR4
        go_wp2_with (first | (at_builtin; refine append_fits rfl _ _ rfl g 2 (M.length + 2) [101, 45] rfl rfl (unhide HR6) b off M.length c4 M rfl rfl (unhide HC5) (by omega) ?_; intro w6 hr6 hb6) | fail)
        have HC6 : Hid (CellsL w6 g 0 ([101, 45] ++ M)) := hr6.cells
        have hb06 : Below w.heap.size w w6 := hb23.trans ((hb35.trans (by rw [← hg.out]; exact hb6)).mono hb23.size)
        clear hr6 HR6 HC5 HC
        go_wp2_with fail
        go_ret
        exact sfxEnd_mk ([101, 45] ++ M) (by rw [unhide HT2, if_pos hneg]; rfl) (some ⟨g, 0, none⟩) _ _ (by simp; omega) (fun _ => ⟨_, _, rfl, unhide HC6⟩) hb06
      · have HC5 : Hid (CellsL w4 b off M) := (unhide HC).later (fun _ => hlt3) hb34
        go_wp2_with (first | (at_builtin; refine append_fits rfl _ _ rfl g 1 (M.length + 2) [101] rfl rfl (unhide HR4) b off M.length c4 M rfl rfl (unhide HC5) (by omega) ?_; intro w6 hr6 hb6) | fail)
        have HC6 : Hid (CellsL w6 g 0 ([101] ++ M)) := hr6.cells
        have hb06 : Below w.heap.size w w6 := hb23.trans ((hb34.trans (by rw [← hg.out]; exact hb6)).mono hb23.size)
        clear hr6 HR4 HC5 HC
        go_wp2_with fail
        go_ret
        exact sfxEnd_mk ([101] ++ M) (by rw [unhide HT2, if_neg (by omega)]; rfl) (some ⟨g, 0, none⟩) _ _ (by simp; omega) (fun _ => ⟨_, _, rfl, unhide HC6⟩) hb06
end Go.Proofs.Qxb6606399aDoor
